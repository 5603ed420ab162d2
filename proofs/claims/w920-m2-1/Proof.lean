import JvmDerived
import JvmDerived.Pilot.@@N@@Statement
import JvmDerived.Pilot.@@N@@Code
set_option linter.unusedVariables false
set_option linter.unusedSimpArgs false
@@BLOCK:NumsL.lean.txt@@
namespace Jvm.Pilot.@@N@@
open Jvm Jvm.ClassFile Sem Op Lib Jvm.Free Jvm.Stand Jvm.LawKit Jvm.RoadKit Bundle Jvm.Pilot.@@N@@.Jvm.D
/-- from the state A the run comes to a return of which Q holds -/
def Go (tb : Tables) (e : Env) (below : List Frame) (s : State) (C S : Nat) (Q : Option Value → Heap → List Loc → Prop) (A : State) : Prop :=
  ∃ s₂ o, Steps tb e below A s₂ ∧ s₂.status = .running ∧ Ended s₂ below o ∧ ∃ v L, o = .returned v ∧ Q v s₂.heap L ∧ FrameEnd s o s₂ L C S
theorem go {tb : Tables} {e : Env} {below : List Frame} {s A B : State} {C S : Nat} {Q : Option Value → Heap → List Loc → Prop} (st : ∀ t, Steps tb e below B t → Steps tb e below A t) (h : Go tb e below s C S Q B) : Go tb e below s C S Q A := by
  obtain ⟨s₂, o, h1, h2⟩ := h
  exact ⟨s₂, o, st _ h1, h2⟩
section Rets
variable {p : Program} {l : Launch} {e : Env} {R : Room} {s : State} {m : MethodId} {args : Array Value} {below : List Frame} {meth : Method} {c : Code} {T : State} {locs : List Loc} {cells slots : Nat} {C S : Nat} {Q : Option Value → Heap → List Loc → Prop} {pc : Nat} {Ls : Array Slot} {rest : List Value}
theorem goRetI (X : Stand p l e R s m args below meth c T locs cells slots) (hx : p.tables.exec = Jvm.exec) {z : Int32} (hret : meth.sig.returnType = some .int) (hlk : meth.locks = false) (hd : decode c.code pc = .ok (.ireturn, 1)) (hQ : Q (some (.int z)) T.heap locs) (hc : cells ≤ C) (hs : slots ≤ S) : Go p.tables e below s C S Q (T.setTop (mkF m pc Ls (.int z :: rest))) := by
  obtain ⟨fs, hr, hrun, hended, hW, hsame⟩ := X.leave (v := some (.int z)) (fun h => by rw [hret] at h; cases h) hlk
  exact ⟨_, _, retOut X hx hret rfl (Or.inl ⟨rfl, Or.inl rfl, z, rfl⟩) hd hr, hrun, hended, _, _, rfl, hQ, ⟨_, rfl⟩, hW, hsame.mono hc hs⟩
theorem goRetN (X : Stand p l e R s m args below meth c T locs cells slots) (hx : p.tables.exec = Jvm.exec) {z : Int32} {t : FieldType} (hret : meth.sig.returnType = some t) (ht : t = .boolean ∨ t = .byte ∨ t = .char ∨ t = .short) (hlk : meth.locks = false) (hd : decode c.code pc = .ok (.ireturn, 1)) (hQ : Q (some (.int (nar t z))) T.heap locs) (hc : cells ≤ C) (hs : slots ≤ S) : Go p.tables e below s C S Q (T.setTop (mkF m pc Ls (.int z :: rest))) := by
  obtain ⟨fs, hr, hrun, hended, hW, hsame⟩ := X.leave (v := some (.int (nar t z))) (fun h => by rw [hret] at h; cases h) hlk
  exact ⟨_, _, retN X hx hret ht hd hr, hrun, hended, _, _, rfl, hQ, ⟨_, rfl⟩, hW, hsame.mono hc hs⟩
theorem goRetL (X : Stand p l e R s m args below meth c T locs cells slots) (hx : p.tables.exec = Jvm.exec) {z : Int64} (hret : meth.sig.returnType = some .long) (hlk : meth.locks = false) (hd : decode c.code pc = .ok (.lreturn, 1)) (hQ : Q (some (.long z)) T.heap locs) (hc : cells ≤ C) (hs : slots ≤ S) : Go p.tables e below s C S Q (T.setTop (mkF m pc Ls (.long z :: rest))) := by
  obtain ⟨fs, hr, hrun, hended, hW, hsame⟩ := X.leave (v := some (.long z)) (fun h => by rw [hret] at h; cases h) hlk
  exact ⟨_, _, retOut X hx hret rfl (Or.inr (Or.inl ⟨rfl, rfl, z, rfl⟩)) hd hr, hrun, hended, _, _, rfl, hQ, ⟨_, rfl⟩, hW, hsame.mono hc hs⟩
theorem goRetR (X : Stand p l e R s m args below meth c T locs cells slots) (hx : p.tables.exec = Jvm.exec) {a : Addr} {t : FieldType} (hret : meth.sig.returnType = some t) (ht : t.isReference = true) (hlk : meth.locks = false) (hd : decode c.code pc = .ok (.areturn, 1)) (hQ : Q (some (.ref a)) T.heap locs) (hc : cells ≤ C) (hs : slots ≤ S) : Go p.tables e below s C S Q (T.setTop (mkF m pc Ls (.ref a :: rest))) := by
  obtain ⟨fs, hr, hrun, hended, hW, hsame⟩ := X.leave (v := some (.ref a)) (fun h => by rw [hret] at h; cases h) hlk
  exact ⟨_, _, retOut X hx hret (by cases t <;> first | rfl | cases ht) (Or.inr (Or.inr (Or.inr (Or.inr ⟨rfl, ht, rfl⟩)))) hd hr, hrun, hended, _, _, rfl, hQ, ⟨_, rfl⟩, hW, hsame.mono hc hs⟩
theorem goRetV (X : Stand p l e R s m args below meth c T locs cells slots) (hx : p.tables.exec = Jvm.exec) (hret : meth.sig.returnType = none) (hlk : meth.locks = false) (hd : decode c.code pc = .ok (.return_, 1)) (hQ : Q none T.heap locs) (hc : cells ≤ C) (hs : slots ≤ S) : Go p.tables e below s C S Q (T.setTop (mkF m pc Ls [])) := by
  obtain ⟨fs, hr, hrun, hended, hW, hsame⟩ := X.leave (v := none) (fun _ => rfl) hlk
  exact ⟨_, _, X.returnOut hx hret hd hr, hrun, hended, _, _, rfl, hQ, ⟨_, rfl⟩, hW, hsame.mono hc hs⟩
end Rets
theorem lc_lt_yes {x y : Int64} (h : x < y) : ifCond.holds .lt (lcmpW x y) = true := by
  have h1 : ¬ y < x := by rw [Int64.lt_iff_toInt_lt] at h ⊢; omega
  have h2 : ¬ x = y := fun q => by subst q; rw [Int64.lt_iff_toInt_lt] at h; omega
  simp [lcmpW, h1, h2]; decide
theorem lc_lt_no {x y : Int64} (h : ¬ x < y) : ifCond.holds .lt (lcmpW x y) = false := by
  by_cases h1 : y < x
  · simp [lcmpW, h1]; decide
  · have h2 : x = y := by rw [← Int64.toInt_inj]; rw [Int64.lt_iff_toInt_lt] at h h1; omega
    simp [lcmpW, h1, h2]; decide
theorem lc_ge_no {x y : Int64} (h : x < y) : ifCond.holds .ge (lcmpW x y) = false := by
  have h1 : ¬ y < x := by rw [Int64.lt_iff_toInt_lt] at h ⊢; omega
  have h2 : ¬ x = y := fun q => by subst q; rw [Int64.lt_iff_toInt_lt] at h; omega
  simp [lcmpW, h1, h2]; decide
theorem lc_ge_yes {x y : Int64} (h : ¬ x < y) : ifCond.holds .ge (lcmpW x y) = true := by
  by_cases h1 : y < x
  · simp [lcmpW, h1]; decide
  · have h2 : x = y := by rw [← Int64.toInt_inj]; rw [Int64.lt_iff_toInt_lt] at h h1; omega
    simp [lcmpW, h1, h2]; decide
theorem lc_gt_yes {x y : Int64} (h : y < x) : ifCond.holds .gt (lcmpW x y) = true := by
  simp [lcmpW, h]; decide
theorem lc_gt_no {x y : Int64} (h : ¬ y < x) : ifCond.holds .gt (lcmpW x y) = false := by
  by_cases h2 : x = y <;> simp [lcmpW, h, h2] <;> decide
theorem lc_le_no {x y : Int64} (h : y < x) : ifCond.holds .le (lcmpW x y) = false := by
  simp [lcmpW, h]; decide
theorem lc_le_yes {x y : Int64} (h : ¬ y < x) : ifCond.holds .le (lcmpW x y) = true := by
  by_cases h2 : x = y <;> simp [lcmpW, h, h2] <;> decide
theorem lc_eq_yes {x y : Int64} (h : x = y) : ifCond.holds .eq (lcmpW x y) = true := by
  subst h; simp [lcmpW]; decide
theorem lc_eq_no {x y : Int64} (h : ¬ x = y) : ifCond.holds .eq (lcmpW x y) = false := by
  by_cases h1 : y < x <;> simp [lcmpW, h, h1] <;> decide
theorem lc_ne_no {x y : Int64} (h : x = y) : ifCond.holds .ne (lcmpW x y) = false := by
  subst h; simp [lcmpW]; decide
theorem lc_ne_yes {x y : Int64} (h : ¬ x = y) : ifCond.holds .ne (lcmpW x y) = true := by
  by_cases h1 : y < x <;> simp [lcmpW, h, h1] <;> decide
def mx (a b : Int32) : Int32 := if a < b then b else a
theorem mx_int (a b : Int32) : ((mx a b).toInt = b.toInt ∧ a.toInt < b.toInt) ∨ ((mx a b).toInt = a.toInt ∧ ¬ a.toInt < b.toInt) := by
  unfold mx
  by_cases h : a < b
  · rw [if_pos h]; exact Or.inl ⟨rfl, Int32.lt_iff_toInt_lt.mp h⟩
  · rw [if_neg h]; exact Or.inr ⟨rfl, fun q => h (Int32.lt_iff_toInt_lt.mpr q)⟩
/-- a RecordValues at r: its three arrays, its size, the arrays' lengths, and what was added last -/
def RV (Z : State) (h : Heap) (n0 : Nat) (r t e d : Addr) (sz nt ne nd x : Int32) : Prop :=
  Exa Z h r "com/example/zonecast/zonecast/RecordValues" ∧ Fld Z h r "com/example/zonecast/zonecast/RecordValues" "text" "[C" (.ref t) ∧ Fld Z h r "com/example/zonecast/zonecast/RecordValues" "ends" "[I" (.ref e) ∧ Fld Z h r "com/example/zonecast/zonecast/RecordValues" "digits" "[C" (.ref d) ∧ Fld Z h r "com/example/zonecast/zonecast/RecordValues" "size" "I" (.int sz) ∧
  (∃ k vs, Arv Z h t k .char nt vs (.int 0)) ∧ (∃ k vs, Arv Z h e k .int ne vs (.int 0) ∧ (¬ sz = 0 → vs.getD (sz - 1).toNatClampNeg (.int 0) = .int x)) ∧ (∃ k vs, Arv Z h d k .char nd vs (.int 0)) ∧
  n0 ≤ r ∧ n0 ≤ e ∧ t ≠ r ∧ e ≠ r ∧ d ≠ r ∧ t ≠ e ∧ d ≠ e ∧ n0 ≤ h.size
theorem arv_put {Z : State} {h h' : Heap} {a : Addr} {k : ClassId} {ty : FieldType} {z j : Int32} {vs : List Value} {dv v : Value} (F : Arv Z h a k ty z vs dv) (hv : fits ty v = true) (W : Wr h h' a j.toNatClampNeg v) : ∃ vs', Arv Z h' a k ty z vs' dv ∧ vs'.getD j.toNatClampNeg dv = v := by
  obtain ⟨c, A, q1, S, N, H, G⟩ := F.pad (pad_rep vs dv (j.toNatClampNeg + 1))
  have hl : j.toNatClampNeg < (vs ++ List.replicate (j.toNatClampNeg + 1) dv).length := by rw [List.length_append, List.length_replicate]; omega
  refine ⟨_, Arv.set A q1 S N H G hv W j.toNatClampNeg rfl hl, ?_⟩
  rw [List.getD_eq_getElem?_getD, List.getElem?_set_self hl]; rfl
theorem ncl {n : Int32} {k : Nat} (h : n.toInt ≤ (k : Int)) : n.toNatClampNeg ≤ k := by
  show n.toInt.toNat ≤ k
  omega
theorem nneg {n : Int32} (h : 0 ≤ n.toInt) : ¬ n < 0 := fun q => by
  rw [Int32.lt_iff_toInt_lt] at q
  have c0 : (0 : Int32).toInt = 0 := by decide
  omega
theorem idx_ok {s n : Int32} (h0 : 0 ≤ s.toInt) (h1 : s.toInt ≤ n.toInt) (h2 : ¬ s = 0) : ¬ (s - 1) < 0 ∧ (s - 1) < n := by
  have c0 : (0 : Int32).toInt = 0 := by decide
  have c1 : (1 : Int32).toInt = 1 := by decide
  have h3 : s.toInt ≠ 0 := fun q => h2 (Int32.toInt_inj.mp (q.trans c0.symm))
  have b := s.toInt_lt
  have e1 : (s - 1).toInt = s.toInt - 1 := by rw [Jvm.Kit.i32_sub] <;> rw [c1] <;> omega
  rw [Int32.lt_iff_toInt_lt, Int32.lt_iff_toInt_lt, c0]
  omega
def fNext (s x : Int32) : Int32 := if s = 0 then 0 else x
theorem add_one_ne {s n : Int32} (h0 : 0 ≤ s.toInt) (h1 : s.toInt < n.toInt) : s + 1 - 1 = s := by
  simp
theorem pn_com_example_zonecast_zonecast_RecordValues : plainName "com/example/zonecast/zonecast/RecordValues" = true := by first | (simp [plainName, overriddenIn]; done) | decide +kernel
theorem ef_rm1 (m : MethodId) (a1 : Addr) : entryFrame m #[(.ref a1)] 1 = mkF m 0 #[.val (.ref a1)] [] := by first | (simp [entryFrame, mkF, argsToLocals, Value.category]; done) | rfl
def Q1 (Z : State) (a1 : Addr) (h0 : Heap) (n0 : Nat) (v : Option Value) (h : Heap) (L : List Loc) : Prop := v = none ∧ Fr n0 L ∧ ∃ t e d x, RV Z h n0 a1 t e d 0 0 0 0 x
theorem d1_0 : decode prog_90_method_1_code 0 = .ok (.aload_n 0, 1) := by decide +kernel
theorem d1_1 : decode prog_90_method_1_code 1 = .ok (.invokespecial 1, 3) := by decide +kernel
theorem d1_4 : decode prog_90_method_1_code 4 = .ok (.aload_n 0, 1) := by decide +kernel
theorem d1_5 : decode prog_90_method_1_code 5 = .ok (.iconst 0, 1) := by decide +kernel
theorem d1_6 : decode prog_90_method_1_code 6 = .ok (.newarray .char, 2) := by decide +kernel
theorem d1_8 : decode prog_90_method_1_code 8 = .ok (.putfield 7, 3) := by decide +kernel
theorem d1_11 : decode prog_90_method_1_code 11 = .ok (.aload_n 0, 1) := by decide +kernel
theorem d1_12 : decode prog_90_method_1_code 12 = .ok (.iconst 0, 1) := by decide +kernel
theorem d1_13 : decode prog_90_method_1_code 13 = .ok (.newarray .int, 2) := by decide +kernel
theorem d1_15 : decode prog_90_method_1_code 15 = .ok (.putfield 13, 3) := by decide +kernel
theorem d1_18 : decode prog_90_method_1_code 18 = .ok (.aload_n 0, 1) := by decide +kernel
theorem d1_19 : decode prog_90_method_1_code 19 = .ok (.iconst 0, 1) := by decide +kernel
theorem d1_20 : decode prog_90_method_1_code 20 = .ok (.newarray .char, 2) := by decide +kernel
theorem d1_22 : decode prog_90_method_1_code 22 = .ok (.putfield 17, 3) := by decide +kernel
theorem d1_25 : decode prog_90_method_1_code 25 = .ok (.return_, 1) := by decide +kernel
set_option maxRecDepth 65536 in
set_option maxHeartbeats 40000000 in
theorem rm1 (l : Launch) (Z : State) (a0 : Array Value) (hw : ∀ d ∈ tables_1, d.before a0 Z = true) (ws : List Jvm.Cond) (a1 : Addr) (h0 : Heap) (n0 : Nat) (Z0 : n0 ≤ h0.size) (E_a1 : Exa Z h0 a1 "com/example/zonecast/zonecast/RecordValues") (F_text : Fld Z h0 a1 "com/example/zonecast/zonecast/RecordValues" "text" "[C" .null) (F_ends : Fld Z h0 a1 "com/example/zonecast/zonecast/RecordValues" "ends" "[I" .null) (F_digits : Fld Z h0 a1 "com/example/zonecast/zonecast/RecordValues" "digits" "[C" .null) (F_size : Fld Z h0 a1 "com/example/zonecast/zonecast/RecordValues" "size" "I" (.int 0)) (g_a1 : n0 ≤ a1) :
    MetFree l (⟨"com/example/zonecast/zonecast/RecordValues", "<init>", "()V"⟩ : MethodName) (head1 (Jvm.Cond.code (⟨"com/example/zonecast/zonecast/RecordValues", "<init>", "()V"⟩ : MethodName) prog_90_method_1_code 1 none :: ws) ({ frames := 1, cells := 3, slots := 0, locals := 12 } : Room)) (fun a U => a = #[(.ref a1)] ∧ Z.Warmed39 U.vm ∧ U.heap = h0) (fun _ _ _ _ _ => True) (fun _ U o U' => ∃ v L, o = .returned v ∧ Q1 Z a1 h0 n0 v U'.heap L ∧ FrameEnd U o U' L ({ frames := 1, cells := 3, slots := 0, locals := 12 } : Room).cells ({ frames := 1, cells := 3, slots := 0, locals := 12 } : Room).slots) := by
  refine MetFree.of_bodySF (plainFor_of_name pn_com_example_zonecast_zonecast_RecordValues) hisR ?_
  intro p e s m args below meth c s₁ Bd hml0 hP hK
  obtain ⟨rfl, hZ, hh⟩ := hP
  have hx := Bd.exec
  have hby := Bd.bytes
  have hml : c.maxLocals = 1 := hml0
  have hown : s.vm.findClass "com/example/zonecast/zonecast/RecordValues" = some m.cls := findClass_of_methodNamed Bd.named
  have hnm := (name_of_methodNamed Bd.named Bd.method).1
  have hlk := Bd.notSynchronized
  have X0 : Stand p l e ({ frames := 1, cells := 3, slots := 0, locals := 12 } : Room) s m #[(.ref a1)] below meth c s₁ [] 0 0 := Stand.of_body Bd
  have e0 : s₁.heap = h0 := by rw [← hh, Bd.state]; rfl
  have N0 := Fr.nil n0
  show Go p.tables e below s ({ frames := 1, cells := 3, slots := 0, locals := 12 } : Room).cells ({ frames := 1, cells := 3, slots := 0, locals := 12 } : Room).slots (Q1 Z a1 h0 n0) _
  refine go (fun t k => castTop (ef_rm1 m a1) k) ?_
  refine go (B := s₁.setTop (mkF m 1 #[.val (.ref a1)] [(.ref a1)])) (fun _ k => XS.aloadN X0.here hx rfl (hb hby d1_0) rfl rfl k) ?_
  obtain ⟨T1, X1, e1, st1⟩ := initO X0 hx hZ hown (hw _ (List.mem_of_getElem? (i := 6) rfl)) (hw _ (List.mem_of_getElem? (i := 7) rfl)) (hw _ (List.mem_of_getElem? (i := 8) rfl)) e0 (g := (mkF m 1 #[.val (.ref a1)] [(.ref a1)])) rfl (by rw [hml]; rfl) rfl (hb hby d1_1) (by decide) (W := 0) (by show 2 * 0 + _ ≤ _; exact Nat.le_of_eq rfl) (by decide)
  refine go (B := T1.setTop (mkF m 4 #[.val (.ref a1)] [])) (fun _ k => st1 _ k) ?_
  refine go (B := T1.setTop (mkF m 5 #[.val (.ref a1)] [(.ref a1)])) (fun _ k => XS.aloadN X1.here hx rfl (hb hby d1_4) rfl rfl k) ?_
  refine go (B := T1.setTop (mkF m 6 #[.val (.ref a1)] [(.int (0 : Int32)), (.ref a1)])) (fun _ k => XS.iconst X1.here hx rfl (hb hby d1_5) k) ?_
  obtain ⟨T2, h2, k2, X2, e2, E2, A2, st2⟩ := newP X1 hx hZ (hw _ (List.mem_of_getElem? (i := 9) rfl)) e1 (g := (mkF m 6 #[.val (.ref a1)] [(.int (0 : Int32)), (.ref a1)])) rfl (hb hby d1_6) rfl (by decide) (cap := 0) (by decide) (by decide) (by decide) (by decide)
  obtain ⟨b2, g2⟩ : ∃ z, z = Array.size (h0) := ⟨_, rfl⟩
  rw [← g2] at A2 st2
  have ne_a1_b2 : a1 ≠ b2 := Nat.ne_of_lt (Nat.lt_of_lt_of_le E_a1.lt (Nat.le_of_eq g2.symm))
  replace E_a1 := E_a1.ext E2
  replace F_text := F_text.ext E2
  replace F_ends := F_ends.ext E2
  replace F_digits := F_digits.ext E2
  replace F_size := F_size.ext E2
  have g_b2 : n0 ≤ b2 := Nat.le_trans Z0 (Nat.le_of_eq g2.symm)
  have Z2 : n0 ≤ h2.size := Nat.le_trans Z0 E2.1
  have V_b2 := Arv.new A2 (by decide)
  refine go (B := T2.setTop (mkF m 8 #[.val (.ref a1)] [(.ref b2), (.ref a1)])) (fun _ k => st2 _ k) ?_
  obtain ⟨T3, h3, X3, e3, W3, st3⟩ := putF X2 hx hZ hown (host := "") (Or.inl (hw _ (List.mem_of_getElem? (i := 10) rfl))) Via.refl e2 F_text E_a1 (Or.inl (hw _ (List.mem_of_getElem? (i := 11) rfl))) (hw _ (List.mem_of_getElem? (i := 1) rfl)) (ty := (.array .char)) (by decide) rfl rfl (g := (mkF m 8 #[.val (.ref a1)] [(.ref b2), (.ref a1)])) rfl rfl (hb hby d1_8)
  replace E_a1 := E_a1.wr W3
  replace F_text := F_text.same W3
  replace F_ends := F_ends.other W3 (Or.inr (slot_ne (Or.inl (hw _ (List.mem_of_getElem? (i := 14) rfl))) (Or.inl (hw _ (List.mem_of_getElem? (i := 11) rfl))) (by decide) (t := (.array .int)) (t' := (.array .char)) (by decide) (by decide)))
  replace F_digits := F_digits.other W3 (Or.inr (slot_ne (Or.inl (hw _ (List.mem_of_getElem? (i := 16) rfl))) (Or.inl (hw _ (List.mem_of_getElem? (i := 11) rfl))) (by decide) (t := (.array .char)) (t' := (.array .char)) (by decide) (by decide)))
  replace F_size := F_size.other W3 (Or.inr (slot_ne (Or.inl (hw _ (List.mem_of_getElem? (i := 23) rfl))) (Or.inl (hw _ (List.mem_of_getElem? (i := 11) rfl))) (by decide) (t := .int) (t' := (.array .char)) (by decide) (by decide)))
  replace V_b2 := V_b2.other W3 (Ne.symm ne_a1_b2)
  have N3 := Fr.snoc X3 N0 g_a1
  have Z3 : n0 ≤ h3.size := Nat.le_trans Z2 (Keep.of_wr W3).1
  refine go (B := T3.setTop (mkF m 11 #[.val (.ref a1)] [])) (fun _ k => st3 _ k) ?_
  refine go (B := T3.setTop (mkF m 12 #[.val (.ref a1)] [(.ref a1)])) (fun _ k => XS.aloadN X3.here hx rfl (hb hby d1_11) rfl rfl k) ?_
  refine go (B := T3.setTop (mkF m 13 #[.val (.ref a1)] [(.int (0 : Int32)), (.ref a1)])) (fun _ k => XS.iconst X3.here hx rfl (hb hby d1_12) k) ?_
  obtain ⟨T4, h4, k4, X4, e4, E4, A4, st4⟩ := newP X3 hx hZ (hw _ (List.mem_of_getElem? (i := 12) rfl)) e3 (g := (mkF m 13 #[.val (.ref a1)] [(.int (0 : Int32)), (.ref a1)])) rfl (hb hby d1_13) rfl (by decide) (cap := 0) (by decide) (by decide) (by decide) (by decide)
  obtain ⟨b4, g4⟩ : ∃ z, z = Array.size (h3) := ⟨_, rfl⟩
  rw [← g4] at A4 st4
  have ne_a1_b4 : a1 ≠ b4 := Nat.ne_of_lt (Nat.lt_of_lt_of_le E_a1.lt (Nat.le_of_eq g4.symm))
  have ne_b2_b4 : b2 ≠ b4 := Nat.ne_of_lt (Nat.lt_of_lt_of_le V_b2.lt (Nat.le_of_eq g4.symm))
  replace E_a1 := E_a1.ext E4
  replace F_text := F_text.ext E4
  replace F_ends := F_ends.ext E4
  replace F_digits := F_digits.ext E4
  replace F_size := F_size.ext E4
  replace V_b2 := V_b2.ext E4
  have g_b4 : n0 ≤ b4 := Nat.le_trans Z3 (Nat.le_of_eq g4.symm)
  have Z4 : n0 ≤ h4.size := Nat.le_trans Z3 E4.1
  have V_b4 := Arv.new A4 (by decide)
  refine go (B := T4.setTop (mkF m 15 #[.val (.ref a1)] [(.ref b4), (.ref a1)])) (fun _ k => st4 _ k) ?_
  obtain ⟨T5, h5, X5, e5, W5, st5⟩ := putF X4 hx hZ hown (host := "") (Or.inl (hw _ (List.mem_of_getElem? (i := 13) rfl))) Via.refl e4 F_ends E_a1 (Or.inl (hw _ (List.mem_of_getElem? (i := 14) rfl))) (hw _ (List.mem_of_getElem? (i := 1) rfl)) (ty := (.array .int)) (by decide) rfl rfl (g := (mkF m 15 #[.val (.ref a1)] [(.ref b4), (.ref a1)])) rfl rfl (hb hby d1_15)
  replace E_a1 := E_a1.wr W5
  replace F_text := F_text.other W5 (Or.inr (slot_ne (Or.inl (hw _ (List.mem_of_getElem? (i := 11) rfl))) (Or.inl (hw _ (List.mem_of_getElem? (i := 14) rfl))) (by decide) (t := (.array .char)) (t' := (.array .int)) (by decide) (by decide)))
  replace F_ends := F_ends.same W5
  replace F_digits := F_digits.other W5 (Or.inr (slot_ne (Or.inl (hw _ (List.mem_of_getElem? (i := 16) rfl))) (Or.inl (hw _ (List.mem_of_getElem? (i := 14) rfl))) (by decide) (t := (.array .char)) (t' := (.array .int)) (by decide) (by decide)))
  replace F_size := F_size.other W5 (Or.inr (slot_ne (Or.inl (hw _ (List.mem_of_getElem? (i := 23) rfl))) (Or.inl (hw _ (List.mem_of_getElem? (i := 14) rfl))) (by decide) (t := .int) (t' := (.array .int)) (by decide) (by decide)))
  replace V_b2 := V_b2.other W5 (Ne.symm ne_a1_b2)
  replace V_b4 := V_b4.other W5 (Ne.symm ne_a1_b4)
  have N5 := Fr.snoc X5 N3 g_a1
  have Z5 : n0 ≤ h5.size := Nat.le_trans Z4 (Keep.of_wr W5).1
  refine go (B := T5.setTop (mkF m 18 #[.val (.ref a1)] [])) (fun _ k => st5 _ k) ?_
  refine go (B := T5.setTop (mkF m 19 #[.val (.ref a1)] [(.ref a1)])) (fun _ k => XS.aloadN X5.here hx rfl (hb hby d1_18) rfl rfl k) ?_
  refine go (B := T5.setTop (mkF m 20 #[.val (.ref a1)] [(.int (0 : Int32)), (.ref a1)])) (fun _ k => XS.iconst X5.here hx rfl (hb hby d1_19) k) ?_
  obtain ⟨T6, h6, k6, X6, e6, E6, A6, st6⟩ := newP X5 hx hZ (hw _ (List.mem_of_getElem? (i := 9) rfl)) e5 (g := (mkF m 20 #[.val (.ref a1)] [(.int (0 : Int32)), (.ref a1)])) rfl (hb hby d1_20) rfl (by decide) (cap := 0) (by decide) (by decide) (by decide) (by decide)
  obtain ⟨b6, g6⟩ : ∃ z, z = Array.size (h5) := ⟨_, rfl⟩
  rw [← g6] at A6 st6
  have ne_a1_b6 : a1 ≠ b6 := Nat.ne_of_lt (Nat.lt_of_lt_of_le E_a1.lt (Nat.le_of_eq g6.symm))
  have ne_b2_b6 : b2 ≠ b6 := Nat.ne_of_lt (Nat.lt_of_lt_of_le V_b2.lt (Nat.le_of_eq g6.symm))
  have ne_b4_b6 : b4 ≠ b6 := Nat.ne_of_lt (Nat.lt_of_lt_of_le V_b4.lt (Nat.le_of_eq g6.symm))
  replace E_a1 := E_a1.ext E6
  replace F_text := F_text.ext E6
  replace F_ends := F_ends.ext E6
  replace F_digits := F_digits.ext E6
  replace F_size := F_size.ext E6
  replace V_b2 := V_b2.ext E6
  replace V_b4 := V_b4.ext E6
  have g_b6 : n0 ≤ b6 := Nat.le_trans Z5 (Nat.le_of_eq g6.symm)
  have Z6 : n0 ≤ h6.size := Nat.le_trans Z5 E6.1
  have V_b6 := Arv.new A6 (by decide)
  refine go (B := T6.setTop (mkF m 22 #[.val (.ref a1)] [(.ref b6), (.ref a1)])) (fun _ k => st6 _ k) ?_
  obtain ⟨T7, h7, X7, e7, W7, st7⟩ := putF X6 hx hZ hown (host := "") (Or.inl (hw _ (List.mem_of_getElem? (i := 15) rfl))) Via.refl e6 F_digits E_a1 (Or.inl (hw _ (List.mem_of_getElem? (i := 16) rfl))) (hw _ (List.mem_of_getElem? (i := 1) rfl)) (ty := (.array .char)) (by decide) rfl rfl (g := (mkF m 22 #[.val (.ref a1)] [(.ref b6), (.ref a1)])) rfl rfl (hb hby d1_22)
  replace E_a1 := E_a1.wr W7
  replace F_text := F_text.other W7 (Or.inr (slot_ne (Or.inl (hw _ (List.mem_of_getElem? (i := 11) rfl))) (Or.inl (hw _ (List.mem_of_getElem? (i := 16) rfl))) (by decide) (t := (.array .char)) (t' := (.array .char)) (by decide) (by decide)))
  replace F_ends := F_ends.other W7 (Or.inr (slot_ne (Or.inl (hw _ (List.mem_of_getElem? (i := 14) rfl))) (Or.inl (hw _ (List.mem_of_getElem? (i := 16) rfl))) (by decide) (t := (.array .int)) (t' := (.array .char)) (by decide) (by decide)))
  replace F_digits := F_digits.same W7
  replace F_size := F_size.other W7 (Or.inr (slot_ne (Or.inl (hw _ (List.mem_of_getElem? (i := 23) rfl))) (Or.inl (hw _ (List.mem_of_getElem? (i := 16) rfl))) (by decide) (t := .int) (t' := (.array .char)) (by decide) (by decide)))
  replace V_b2 := V_b2.other W7 (Ne.symm ne_a1_b2)
  replace V_b4 := V_b4.other W7 (Ne.symm ne_a1_b4)
  replace V_b6 := V_b6.other W7 (Ne.symm ne_a1_b6)
  have N7 := Fr.snoc X7 N5 g_a1
  have Z7 : n0 ≤ h7.size := Nat.le_trans Z6 (Keep.of_wr W7).1
  refine go (B := T7.setTop (mkF m 25 #[.val (.ref a1)] [])) (fun _ k => st7 _ k) ?_
  refine goRetV X7 hx Bd.returns hlk (hb hby d1_25) ?_ (by decide) (by decide)
  rw [e7]
  exact ⟨rfl, N7, _, _, _, 0, E_a1, F_text, F_ends, F_digits, F_size, ⟨_, _, V_b2⟩, ⟨_, _, V_b4, fun q => absurd rfl q⟩, ⟨_, _, V_b6⟩, g_a1, g_b4, (Ne.symm ne_a1_b2), (Ne.symm ne_a1_b4), (Ne.symm ne_a1_b6), ne_b2_b4, (Ne.symm ne_b4_b6), Z7⟩
theorem ef_rm3 (m : MethodId) (a1 : Addr) : entryFrame m #[(.ref a1)] 1 = mkF m 0 #[.val (.ref a1)] [] := by first | (simp [entryFrame, mkF, argsToLocals, Value.category]; done) | rfl
def Q3 (Z : State) (a1 : Addr) (t : Addr) (e' : Addr) (d : Addr) (sz : Int32) (nt : Int32) (ne : Int32) (nd : Int32) (x : Int32) (h0 : Heap) (n0 : Nat) (v : Option Value) (h : Heap) (L : List Loc) : Prop := v = some (.int (fNext sz x)) ∧ Fr n0 L ∧ h = h0
theorem d3_0 : decode prog_90_method_4_code 0 = .ok (.aload_n 0, 1) := by decide +kernel
theorem d3_1 : decode prog_90_method_4_code 1 = .ok (.getfield 20, 3) := by decide +kernel
theorem d3_4 : decode prog_90_method_4_code 4 = .ok (.ifCond .ne 7, 3) := by decide +kernel
theorem d3_7 : decode prog_90_method_4_code 7 = .ok (.iconst 0, 1) := by decide +kernel
theorem d3_8 : decode prog_90_method_4_code 8 = .ok (.goto 14, 3) := by decide +kernel
theorem d3_22 : decode prog_90_method_4_code 22 = .ok (.ireturn, 1) := by decide +kernel
theorem d3_11 : decode prog_90_method_4_code 11 = .ok (.aload_n 0, 1) := by decide +kernel
theorem d3_12 : decode prog_90_method_4_code 12 = .ok (.getfield 13, 3) := by decide +kernel
theorem d3_15 : decode prog_90_method_4_code 15 = .ok (.aload_n 0, 1) := by decide +kernel
theorem d3_16 : decode prog_90_method_4_code 16 = .ok (.getfield 20, 3) := by decide +kernel
theorem d3_19 : decode prog_90_method_4_code 19 = .ok (.iconst 1, 1) := by decide +kernel
theorem d3_20 : decode prog_90_method_4_code 20 = .ok (.isub, 1) := by decide +kernel
theorem d3_21 : decode prog_90_method_4_code 21 = .ok (.iaload, 1) := by decide +kernel
set_option maxRecDepth 65536 in
set_option maxHeartbeats 40000000 in
theorem rm3 (l : Launch) (Z : State) (a0 : Array Value) (hw : ∀ d ∈ tables_1, d.before a0 Z = true) (ws : List Jvm.Cond) (a1 : Addr) (t : Addr) (e' : Addr) (d : Addr) (sz : Int32) (nt : Int32) (ne : Int32) (nd : Int32) (x : Int32) (h0 : Heap) (n0 : Nat) (Z0 : n0 ≤ h0.size) (R0 : RV Z h0 n0 a1 t e' d sz nt ne nd x) (bs0 : 0 ≤ sz.toInt) (bs1 : sz.toInt ≤ ne.toInt) :
    MetFree l (⟨"com/example/zonecast/zonecast/RecordValues", "next", "()I"⟩ : MethodName) (head1 (Jvm.Cond.code (⟨"com/example/zonecast/zonecast/RecordValues", "next", "()I"⟩ : MethodName) prog_90_method_4_code 1 (some .int) :: ws) ({ frames := 0, cells := 0, slots := 0, locals := 0 } : Room)) (fun a U => a = #[(.ref a1)] ∧ Z.Warmed39 U.vm ∧ U.heap = h0) (fun _ _ _ _ _ => True) (fun _ U o U' => ∃ v L, o = .returned v ∧ Q3 Z a1 t e' d sz nt ne nd x h0 n0 v U'.heap L ∧ FrameEnd U o U' L ({ frames := 0, cells := 0, slots := 0, locals := 0 } : Room).cells ({ frames := 0, cells := 0, slots := 0, locals := 0 } : Room).slots) := by
  refine MetFree.of_bodySF (plainFor_of_name pn_com_example_zonecast_zonecast_RecordValues) hisR ?_
  intro p e s m args below meth c s₁ Bd hml0 hP hK
  obtain ⟨rfl, hZ, hh⟩ := hP
  have hx := Bd.exec
  have hby := Bd.bytes
  have hml : c.maxLocals = 1 := hml0
  have hown : s.vm.findClass "com/example/zonecast/zonecast/RecordValues" = some m.cls := findClass_of_methodNamed Bd.named
  have hnm := (name_of_methodNamed Bd.named Bd.method).1
  have hlk := Bd.notSynchronized
  have X0 : Stand p l e ({ frames := 0, cells := 0, slots := 0, locals := 0 } : Room) s m #[(.ref a1)] below meth c s₁ [] 0 0 := Stand.of_body Bd
  have e0 : s₁.heap = h0 := by rw [← hh, Bd.state]; rfl
  have N0 := Fr.nil n0
  show Go p.tables e below s ({ frames := 0, cells := 0, slots := 0, locals := 0 } : Room).cells ({ frames := 0, cells := 0, slots := 0, locals := 0 } : Room).slots (Q3 Z a1 t e' d sz nt ne nd x h0 n0) _
  refine go (fun t k => castTop (ef_rm3 m a1) k) ?_
  obtain ⟨E_r, F_text, F_ends, F_digits, F_size, ⟨k_t, vs_t, V_t⟩, ⟨k_e, vs_e, V_e, hlast⟩, ⟨k_d, vs_d, V_d⟩, g_a1, g_e', ne_t_r, ne_e_r, ne_d_r, ne_t_e, ne_d_e, Zr⟩ := R0
  refine go (B := s₁.setTop (mkF m 1 #[.val (.ref a1)] [(.ref a1)])) (fun _ k => XS.aloadN X0.here hx rfl (hb hby d3_0) rfl rfl k) ?_
  obtain ⟨T1, X1, e1, st1⟩ := getF X0 hx hZ hown (host := "") (Or.inl (hw _ (List.mem_of_getElem? (i := 22) rfl))) Via.refl e0 F_size (g := (mkF m 1 #[.val (.ref a1)] [(.ref a1)])) rfl rfl (hb hby d3_1)
  refine go (B := T1.setTop (mkF m 4 #[.val (.ref a1)] [(.int sz)])) (fun _ k => st1 _ k) ?_
  by_cases hc4 : sz = (0 : Int32)
  · refine go (B := T1.setTop (mkF m 7 #[.val (.ref a1)] [])) (fun _ k => XS.ifNo X1.here hx rfl (hb hby d3_4) rfl ((if0 _ _).trans (teq hc4).2) k) ?_
    refine go (B := T1.setTop (mkF m 8 #[.val (.ref a1)] [(.int (0 : Int32))])) (fun _ k => XS.iconst X1.here hx rfl (hb hby d3_7) k) ?_
    refine go (B := T1.setTop (mkF m 22 #[.val (.ref a1)] [(.int (0 : Int32))])) (fun _ k => XS.goto X1.here hx rfl (pc0 := 8) (pc' := 22) rfl (hb hby d3_8) (by decide) (by decide) k) ?_
    refine goRetI X1 hx Bd.returns hlk (hb hby d3_22) ?_ (by decide) (by decide)
    rw [e1]
    exact ⟨by rw [fNext, if_pos hc4], N0, rfl⟩
  · refine go (B := T1.setTop (mkF m 11 #[.val (.ref a1)] [])) (fun _ k => XS.ifYes X1.here hx rfl (pc0 := 4) (pc' := 11) rfl (hb hby d3_4) rfl ((if0 _ _).trans (feq hc4).2) (by decide) (by decide) k) ?_
    refine go (B := T1.setTop (mkF m 12 #[.val (.ref a1)] [(.ref a1)])) (fun _ k => XS.aloadN X1.here hx rfl (hb hby d3_11) rfl rfl k) ?_
    obtain ⟨T2, X2, e2, st2⟩ := getF X1 hx hZ hown (host := "") (Or.inl (hw _ (List.mem_of_getElem? (i := 13) rfl))) Via.refl e1 F_ends (g := (mkF m 12 #[.val (.ref a1)] [(.ref a1)])) rfl rfl (hb hby d3_12)
    refine go (B := T2.setTop (mkF m 15 #[.val (.ref a1)] [(.ref e')])) (fun _ k => st2 _ k) ?_
    refine go (B := T2.setTop (mkF m 16 #[.val (.ref a1)] [(.ref a1), (.ref e')])) (fun _ k => XS.aloadN X2.here hx rfl (hb hby d3_15) rfl rfl k) ?_
    obtain ⟨T3, X3, e3, st3⟩ := getF X2 hx hZ hown (host := "") (Or.inl (hw _ (List.mem_of_getElem? (i := 22) rfl))) Via.refl e2 F_size (g := (mkF m 16 #[.val (.ref a1)] [(.ref a1), (.ref e')])) rfl rfl (hb hby d3_16)
    refine go (B := T3.setTop (mkF m 19 #[.val (.ref a1)] [(.int sz), (.ref e')])) (fun _ k => st3 _ k) ?_
    refine go (B := T3.setTop (mkF m 20 #[.val (.ref a1)] [(.int (1 : Int32)), (.int sz), (.ref e')])) (fun _ k => XS.iconst X3.here hx rfl (hb hby d3_19) k) ?_
    refine go (B := T3.setTop (mkF m 21 #[.val (.ref a1)] [(.int (sz - (1 : Int32))), (.ref e')])) (fun _ k => XS.isub X3.here hx rfl (hb hby d3_20) rfl k) ?_
    obtain ⟨cl, Ar, -, S1, N1, H1, -⟩ := V_e
    have hin : ¬ ((sz - (1 : Int32)) < 0 ∨ cl.slots.size ≤ ((sz - (1 : Int32))).toNatClampNeg) := inb_of S1 (idx_ok bs0 bs1 hc4)
    have hat : cl.slots[((sz - (1 : Int32))).toNatClampNeg]? = some (.int x) := by rw [H1 _ (Nat.lt_of_not_le fun q => hin (Or.inr q))]; exact congrArg some (hlast hc4)
    refine go (B := T3.setTop (mkF m 22 #[.val (.ref a1)] [(.int x)])) (fun _ k => X3.iaload hx (j := (sz - (1 : Int32))) (v := (.int x)) (by rw [e3]; exact Ar.1) (State.isArrayOf_alike hZ.alike Ar.2.1) Ar.2.2 hin hat (g := (mkF m 21 #[.val (.ref a1)] [(.int (sz - (1 : Int32))), (.ref e')])) rfl rfl (hb hby d3_21) _ k) ?_
    refine goRetI X3 hx Bd.returns hlk (hb hby d3_22) ?_ (by decide) (by decide)
    rw [e3]
    exact ⟨by rw [fNext, if_neg hc4], N0, rfl⟩
theorem ef_rm5 (m : MethodId) (a1 : Addr) (p2 : Int32) : entryFrame m #[(.ref a1), (.int p2)] 2 = mkF m 0 #[.val (.ref a1), .val (.int p2)] [] := by first | (simp [entryFrame, mkF, argsToLocals, Value.category]; done) | rfl
def Q5 (Z : State) (a1 : Addr) (p2 : Int32) (t : Addr) (e' : Addr) (d : Addr) (sz : Int32) (nt : Int32) (ne : Int32) (nd : Int32) (x : Int32) (h0 : Heap) (n0 : Nat) (v : Option Value) (h : Heap) (L : List Loc) : Prop := v = none ∧ Fr n0 L ∧ RV Z h n0 a1 t e' d (sz + (1 : Int32)) nt ne nd p2
theorem d5_0 : decode prog_90_method_3_code 0 = .ok (.aload_n 0, 1) := by decide +kernel
theorem d5_1 : decode prog_90_method_3_code 1 = .ok (.getfield 13, 3) := by decide +kernel
theorem d5_4 : decode prog_90_method_3_code 4 = .ok (.aload_n 0, 1) := by decide +kernel
theorem d5_5 : decode prog_90_method_3_code 5 = .ok (.dup, 1) := by decide +kernel
theorem d5_6 : decode prog_90_method_3_code 6 = .ok (.getfield 20, 3) := by decide +kernel
theorem d5_9 : decode prog_90_method_3_code 9 = .ok (.dup_x1, 1) := by decide +kernel
theorem d5_10 : decode prog_90_method_3_code 10 = .ok (.iconst 1, 1) := by decide +kernel
theorem d5_11 : decode prog_90_method_3_code 11 = .ok (.iadd, 1) := by decide +kernel
theorem d5_12 : decode prog_90_method_3_code 12 = .ok (.putfield 20, 3) := by decide +kernel
theorem d5_15 : decode prog_90_method_3_code 15 = .ok (.iload_n 1, 1) := by decide +kernel
theorem d5_16 : decode prog_90_method_3_code 16 = .ok (.iastore, 1) := by decide +kernel
theorem d5_17 : decode prog_90_method_3_code 17 = .ok (.return_, 1) := by decide +kernel
set_option maxRecDepth 65536 in
set_option maxHeartbeats 40000000 in
theorem rm5 (l : Launch) (Z : State) (a0 : Array Value) (hw : ∀ d ∈ tables_1, d.before a0 Z = true) (ws : List Jvm.Cond) (a1 : Addr) (p2 : Int32) (t : Addr) (e' : Addr) (d : Addr) (sz : Int32) (nt : Int32) (ne : Int32) (nd : Int32) (x : Int32) (h0 : Heap) (n0 : Nat) (Z0 : n0 ≤ h0.size) (R0 : RV Z h0 n0 a1 t e' d sz nt ne nd x) (bs0 : 0 ≤ sz.toInt) (bs1 : sz.toInt < ne.toInt) :
    MetFree l (⟨"com/example/zonecast/zonecast/RecordValues", "add", "(I)V"⟩ : MethodName) (head1 (Jvm.Cond.code (⟨"com/example/zonecast/zonecast/RecordValues", "add", "(I)V"⟩ : MethodName) prog_90_method_3_code 2 none :: ws) ({ frames := 0, cells := 0, slots := 0, locals := 0 } : Room)) (fun a U => a = #[(.ref a1), (.int p2)] ∧ Z.Warmed39 U.vm ∧ U.heap = h0) (fun _ _ _ _ _ => True) (fun _ U o U' => ∃ v L, o = .returned v ∧ Q5 Z a1 p2 t e' d sz nt ne nd x h0 n0 v U'.heap L ∧ FrameEnd U o U' L ({ frames := 0, cells := 0, slots := 0, locals := 0 } : Room).cells ({ frames := 0, cells := 0, slots := 0, locals := 0 } : Room).slots) := by
  refine MetFree.of_bodySF (plainFor_of_name pn_com_example_zonecast_zonecast_RecordValues) hisR ?_
  intro p e s m args below meth c s₁ Bd hml0 hP hK
  obtain ⟨rfl, hZ, hh⟩ := hP
  have hx := Bd.exec
  have hby := Bd.bytes
  have hml : c.maxLocals = 2 := hml0
  have hown : s.vm.findClass "com/example/zonecast/zonecast/RecordValues" = some m.cls := findClass_of_methodNamed Bd.named
  have hnm := (name_of_methodNamed Bd.named Bd.method).1
  have hlk := Bd.notSynchronized
  have X0 : Stand p l e ({ frames := 0, cells := 0, slots := 0, locals := 0 } : Room) s m #[(.ref a1), (.int p2)] below meth c s₁ [] 0 0 := Stand.of_body Bd
  have e0 : s₁.heap = h0 := by rw [← hh, Bd.state]; rfl
  have N0 := Fr.nil n0
  show Go p.tables e below s ({ frames := 0, cells := 0, slots := 0, locals := 0 } : Room).cells ({ frames := 0, cells := 0, slots := 0, locals := 0 } : Room).slots (Q5 Z a1 p2 t e' d sz nt ne nd x h0 n0) _
  refine go (fun t k => castTop (ef_rm5 m a1 p2) k) ?_
  obtain ⟨E_r, F_text, F_ends, F_digits, F_size, ⟨k_t, vs_t, V_t⟩, ⟨k_e, vs_e, V_e, hlast⟩, ⟨k_d, vs_d, V_d⟩, g_a1, g_e', ne_t_r, ne_e_r, ne_d_r, ne_t_e, ne_d_e, Zr⟩ := R0
  refine go (B := s₁.setTop (mkF m 1 #[.val (.ref a1), .val (.int p2)] [(.ref a1)])) (fun _ k => XS.aloadN X0.here hx rfl (hb hby d5_0) rfl rfl k) ?_
  obtain ⟨T1, X1, e1, st1⟩ := getF X0 hx hZ hown (host := "") (Or.inl (hw _ (List.mem_of_getElem? (i := 13) rfl))) Via.refl e0 F_ends (g := (mkF m 1 #[.val (.ref a1), .val (.int p2)] [(.ref a1)])) rfl rfl (hb hby d5_1)
  refine go (B := T1.setTop (mkF m 4 #[.val (.ref a1), .val (.int p2)] [(.ref e')])) (fun _ k => st1 _ k) ?_
  refine go (B := T1.setTop (mkF m 5 #[.val (.ref a1), .val (.int p2)] [(.ref a1), (.ref e')])) (fun _ k => XS.aloadN X1.here hx rfl (hb hby d5_4) rfl rfl k) ?_
  refine go (B := T1.setTop (mkF m 6 #[.val (.ref a1), .val (.int p2)] [(.ref a1), (.ref a1), (.ref e')])) (fun _ k => XS.dup X1.here hx rfl (hb hby d5_5) rfl rfl k) ?_
  obtain ⟨T2, X2, e2, st2⟩ := getF X1 hx hZ hown (host := "") (Or.inl (hw _ (List.mem_of_getElem? (i := 22) rfl))) Via.refl e1 F_size (g := (mkF m 6 #[.val (.ref a1), .val (.int p2)] [(.ref a1), (.ref a1), (.ref e')])) rfl rfl (hb hby d5_6)
  refine go (B := T2.setTop (mkF m 9 #[.val (.ref a1), .val (.int p2)] [(.int sz), (.ref a1), (.ref e')])) (fun _ k => st2 _ k) ?_
  refine go (B := T2.setTop (mkF m 10 #[.val (.ref a1), .val (.int p2)] [(.int sz), (.ref a1), (.int sz), (.ref e')])) (fun _ k => XS.dupX1 X2.here hx rfl (hb hby d5_9) rfl rfl rfl k) ?_
  refine go (B := T2.setTop (mkF m 11 #[.val (.ref a1), .val (.int p2)] [(.int (1 : Int32)), (.int sz), (.ref a1), (.int sz), (.ref e')])) (fun _ k => XS.iconst X2.here hx rfl (hb hby d5_10) k) ?_
  refine go (B := T2.setTop (mkF m 12 #[.val (.ref a1), .val (.int p2)] [(.int (sz + (1 : Int32))), (.ref a1), (.int sz), (.ref e')])) (fun _ k => XS.iadd X2.here hx rfl (hb hby d5_11) rfl k) ?_
  obtain ⟨T3, h3, X3, e3, W3, st3⟩ := putF X2 hx hZ hown (host := "") (Or.inl (hw _ (List.mem_of_getElem? (i := 22) rfl))) Via.refl e2 F_size E_r (Or.inl (hw _ (List.mem_of_getElem? (i := 23) rfl))) (hw _ (List.mem_of_getElem? (i := 1) rfl)) (ty := .int) (by decide) rfl rfl (g := (mkF m 12 #[.val (.ref a1), .val (.int p2)] [(.int (sz + (1 : Int32))), (.ref a1), (.int sz), (.ref e')])) rfl rfl (hb hby d5_12)
  replace E_r := E_r.wr W3
  replace F_text := F_text.other W3 (Or.inr (slot_ne (Or.inl (hw _ (List.mem_of_getElem? (i := 11) rfl))) (Or.inl (hw _ (List.mem_of_getElem? (i := 23) rfl))) (by decide) (t := (.array .char)) (t' := .int) (by decide) (by decide)))
  replace F_ends := F_ends.other W3 (Or.inr (slot_ne (Or.inl (hw _ (List.mem_of_getElem? (i := 14) rfl))) (Or.inl (hw _ (List.mem_of_getElem? (i := 23) rfl))) (by decide) (t := (.array .int)) (t' := .int) (by decide) (by decide)))
  replace F_digits := F_digits.other W3 (Or.inr (slot_ne (Or.inl (hw _ (List.mem_of_getElem? (i := 16) rfl))) (Or.inl (hw _ (List.mem_of_getElem? (i := 23) rfl))) (by decide) (t := (.array .char)) (t' := .int) (by decide) (by decide)))
  replace F_size := F_size.same W3
  replace V_t := V_t.other W3 ne_t_r
  replace V_e := V_e.other W3 ne_e_r
  replace V_d := V_d.other W3 ne_d_r
  have N3 := Fr.snoc X3 N0 g_a1
  have Z3 : n0 ≤ h3.size := Nat.le_trans Zr (Keep.of_wr W3).1
  refine go (B := T3.setTop (mkF m 15 #[.val (.ref a1), .val (.int p2)] [(.int sz), (.ref e')])) (fun _ k => st3 _ k) ?_
  refine go (B := T3.setTop (mkF m 16 #[.val (.ref a1), .val (.int p2)] [(.int p2), (.int sz), (.ref e')])) (fun _ k => XS.iloadN X3.here hx rfl (hb hby d5_15) rfl k) ?_
  have V_e2 := V_e
  obtain ⟨cl, Ar, -, S1, N1, H1, -⟩ := V_e2
  have hin : ¬ (sz < 0 ∨ cl.slots.size ≤ (sz).toNatClampNeg) := inb_of S1 ⟨nneg bs0, by rw [Int32.lt_iff_toInt_lt]; exact bs1⟩
  obtain ⟨T4, h4, X4, e4, W4, st4⟩ := stI X3 hx hZ e3 Ar (j := sz) hin (g := (mkF m 16 #[.val (.ref a1), .val (.int p2)] [(.int p2), (.int sz), (.ref e')])) rfl rfl (hb hby d5_16)
  obtain ⟨vs_n, V_n, hl_n⟩ := arv_put V_e rfl W4
  replace E_r := E_r.wr W4
  replace F_text := F_text.other W4 (Or.inl (Ne.symm ne_e_r))
  replace F_ends := F_ends.other W4 (Or.inl (Ne.symm ne_e_r))
  replace F_digits := F_digits.other W4 (Or.inl (Ne.symm ne_e_r))
  replace F_size := F_size.other W4 (Or.inl (Ne.symm ne_e_r))
  replace V_t := V_t.other W4 ne_t_e
  replace V_d := V_d.other W4 ne_d_e
  have N4 := Fr.snoc X4 N3 g_e'
  have Z4 : n0 ≤ h4.size := Nat.le_trans Z3 (Keep.of_wr W4).1
  refine go (B := T4.setTop (mkF m 17 #[.val (.ref a1), .val (.int p2)] [])) (fun _ k => st4 _ k) ?_
  refine goRetV X4 hx Bd.returns hlk (hb hby d5_17) ?_ (by decide) (by decide)
  rw [e4]
  refine ⟨rfl, N4, E_r, F_text, F_ends, F_digits, F_size, ⟨_, _, V_t⟩, ⟨_, _, V_n, fun _ => ?_⟩, ⟨_, _, V_d⟩, g_a1, g_e', ne_t_r, ne_e_r, ne_d_r, ne_t_e, ne_d_e, Z4⟩
  rw [add_one_ne bs0 bs1]; exact hl_n
theorem ef_rm4 (m : MethodId) (a1 : Addr) (p2 : Int32) (p3 : Int32) (p4 : Int32) : entryFrame m #[(.ref a1), (.int p2), (.int p3), (.int p4)] 4 = mkF m 0 #[.val (.ref a1), .val (.int p2), .val (.int p3), .val (.int p4)] [] := by first | (simp [entryFrame, mkF, argsToLocals, Value.category]; done) | rfl
def Q4 (Z : State) (a1 : Addr) (p2 : Int32) (p3 : Int32) (p4 : Int32) (t : Addr) (e' : Addr) (d : Addr) (sz : Int32) (nt : Int32) (ne : Int32) (nd : Int32) (x : Int32) (h0 : Heap) (n0 : Nat) (v : Option Value) (h : Heap) (L : List Loc) : Prop := v = none ∧ Fr n0 L ∧ ∃ t1 e1 d1 x1, RV Z h n0 a1 t1 e1 d1 0 (mx nt p3) (mx ne p2) (mx nd p4) x1 ∧ (¬ nt < p3 → t1 = t) ∧ (¬ nd < p4 → d1 = d) ∧ (∃ k vs, Arv Z h t k .char nt vs (.int 0)) ∧ (∃ k vs, Arv Z h d k .char nd vs (.int 0))
theorem d4_0 : decode prog_90_method_2_code 0 = .ok (.aload_n 0, 1) := by decide +kernel
theorem d4_1 : decode prog_90_method_2_code 1 = .ok (.getfield 13, 3) := by decide +kernel
theorem d4_4 : decode prog_90_method_2_code 4 = .ok (.arraylength, 1) := by decide +kernel
theorem d4_5 : decode prog_90_method_2_code 5 = .ok (.iload_n 1, 1) := by decide +kernel
theorem d4_6 : decode prog_90_method_2_code 6 = .ok (.if_icmp .ge 10, 3) := by decide +kernel
theorem d4_9 : decode prog_90_method_2_code 9 = .ok (.aload_n 0, 1) := by decide +kernel
theorem d4_10 : decode prog_90_method_2_code 10 = .ok (.iload_n 1, 1) := by decide +kernel
theorem d4_11 : decode prog_90_method_2_code 11 = .ok (.newarray .int, 2) := by decide +kernel
theorem d4_13 : decode prog_90_method_2_code 13 = .ok (.putfield 13, 3) := by decide +kernel
theorem d4_16 : decode prog_90_method_2_code 16 = .ok (.aload_n 0, 1) := by decide +kernel
theorem d4_17 : decode prog_90_method_2_code 17 = .ok (.getfield 7, 3) := by decide +kernel
theorem d4_20 : decode prog_90_method_2_code 20 = .ok (.arraylength, 1) := by decide +kernel
theorem d4_21 : decode prog_90_method_2_code 21 = .ok (.iload_n 2, 1) := by decide +kernel
theorem d4_22 : decode prog_90_method_2_code 22 = .ok (.if_icmp .ge 10, 3) := by decide +kernel
theorem d4_25 : decode prog_90_method_2_code 25 = .ok (.aload_n 0, 1) := by decide +kernel
theorem d4_26 : decode prog_90_method_2_code 26 = .ok (.iload_n 2, 1) := by decide +kernel
theorem d4_27 : decode prog_90_method_2_code 27 = .ok (.newarray .char, 2) := by decide +kernel
theorem d4_29 : decode prog_90_method_2_code 29 = .ok (.putfield 7, 3) := by decide +kernel
theorem d4_32 : decode prog_90_method_2_code 32 = .ok (.aload_n 0, 1) := by decide +kernel
theorem d4_33 : decode prog_90_method_2_code 33 = .ok (.getfield 17, 3) := by decide +kernel
theorem d4_36 : decode prog_90_method_2_code 36 = .ok (.arraylength, 1) := by decide +kernel
theorem d4_37 : decode prog_90_method_2_code 37 = .ok (.iload_n 3, 1) := by decide +kernel
theorem d4_38 : decode prog_90_method_2_code 38 = .ok (.if_icmp .ge 10, 3) := by decide +kernel
theorem d4_41 : decode prog_90_method_2_code 41 = .ok (.aload_n 0, 1) := by decide +kernel
theorem d4_42 : decode prog_90_method_2_code 42 = .ok (.iload_n 3, 1) := by decide +kernel
theorem d4_43 : decode prog_90_method_2_code 43 = .ok (.newarray .char, 2) := by decide +kernel
theorem d4_45 : decode prog_90_method_2_code 45 = .ok (.putfield 17, 3) := by decide +kernel
theorem d4_48 : decode prog_90_method_2_code 48 = .ok (.aload_n 0, 1) := by decide +kernel
theorem d4_49 : decode prog_90_method_2_code 49 = .ok (.iconst 0, 1) := by decide +kernel
theorem d4_50 : decode prog_90_method_2_code 50 = .ok (.putfield 20, 3) := by decide +kernel
theorem d4_53 : decode prog_90_method_2_code 53 = .ok (.return_, 1) := by decide +kernel
set_option maxRecDepth 65536 in
set_option maxHeartbeats 40000000 in
theorem rm4 (l : Launch) (Z : State) (a0 : Array Value) (hw : ∀ d ∈ tables_1, d.before a0 Z = true) (ws : List Jvm.Cond) (a1 : Addr) (p2 : Int32) (p3 : Int32) (p4 : Int32) (t : Addr) (e' : Addr) (d : Addr) (sz : Int32) (nt : Int32) (ne : Int32) (nd : Int32) (x : Int32) (h0 : Heap) (n0 : Nat) (Z0 : n0 ≤ h0.size) (R0 : RV Z h0 n0 a1 t e' d sz nt ne nd x) (b00 : 0 ≤ p2.toInt) (b01 : p2.toInt ≤ (7 : Nat)) (b10 : 0 ≤ p3.toInt) (b11 : p3.toInt ≤ (15 : Nat)) (b20 : 0 ≤ p4.toInt) (b21 : p4.toInt ≤ (15 : Nat)) :
    MetFree l (⟨"com/example/zonecast/zonecast/RecordValues", "clear", "(III)V"⟩ : MethodName) (head1 (Jvm.Cond.code (⟨"com/example/zonecast/zonecast/RecordValues", "clear", "(III)V"⟩ : MethodName) prog_90_method_2_code 4 none :: ws) ({ frames := 0, cells := 3, slots := 37, locals := 0 } : Room)) (fun a U => a = #[(.ref a1), (.int p2), (.int p3), (.int p4)] ∧ Z.Warmed39 U.vm ∧ U.heap = h0) (fun _ _ _ _ _ => True) (fun _ U o U' => ∃ v L, o = .returned v ∧ Q4 Z a1 p2 p3 p4 t e' d sz nt ne nd x h0 n0 v U'.heap L ∧ FrameEnd U o U' L ({ frames := 0, cells := 3, slots := 37, locals := 0 } : Room).cells ({ frames := 0, cells := 3, slots := 37, locals := 0 } : Room).slots) := by
  refine MetFree.of_bodySF (plainFor_of_name pn_com_example_zonecast_zonecast_RecordValues) hisR ?_
  intro p e s m args below meth c s₁ Bd hml0 hP hK
  obtain ⟨rfl, hZ, hh⟩ := hP
  have hx := Bd.exec
  have hby := Bd.bytes
  have hml : c.maxLocals = 4 := hml0
  have hown : s.vm.findClass "com/example/zonecast/zonecast/RecordValues" = some m.cls := findClass_of_methodNamed Bd.named
  have hnm := (name_of_methodNamed Bd.named Bd.method).1
  have hlk := Bd.notSynchronized
  have X0 : Stand p l e ({ frames := 0, cells := 3, slots := 37, locals := 0 } : Room) s m #[(.ref a1), (.int p2), (.int p3), (.int p4)] below meth c s₁ [] 0 0 := Stand.of_body Bd
  have e0 : s₁.heap = h0 := by rw [← hh, Bd.state]; rfl
  have N0 := Fr.nil n0
  show Go p.tables e below s ({ frames := 0, cells := 3, slots := 37, locals := 0 } : Room).cells ({ frames := 0, cells := 3, slots := 37, locals := 0 } : Room).slots (Q4 Z a1 p2 p3 p4 t e' d sz nt ne nd x h0 n0) _
  refine go (fun t k => castTop (ef_rm4 m a1 p2 p3 p4) k) ?_
  obtain ⟨E_r, F_text, F_ends, F_digits, F_size, ⟨k_t, vs_t, V_t⟩, ⟨k_e, vs_e, V_e, hlast⟩, ⟨k_d, vs_d, V_d⟩, g_a1, g_e', ne_t_r, ne_e_r, ne_d_r, ne_t_e, ne_d_e, Zr⟩ := R0
  refine go (B := s₁.setTop (mkF m 1 #[.val (.ref a1), .val (.int p2), .val (.int p3), .val (.int p4)] [(.ref a1)])) (fun _ k => XS.aloadN X0.here hx rfl (hb hby d4_0) rfl rfl k) ?_
  obtain ⟨T1, X1, e1, st1⟩ := getF X0 hx hZ hown (host := "") (Or.inl (hw _ (List.mem_of_getElem? (i := 13) rfl))) Via.refl e0 F_ends (g := (mkF m 1 #[.val (.ref a1), .val (.int p2), .val (.int p3), .val (.int p4)] [(.ref a1)])) rfl rfl (hb hby d4_1)
  refine go (B := T1.setTop (mkF m 4 #[.val (.ref a1), .val (.int p2), .val (.int p3), .val (.int p4)] [(.ref e')])) (fun _ k => st1 _ k) ?_
  have Vc2 := V_e
  obtain ⟨cl2, Ar2, -, S2, N2_, -, -⟩ := Vc2
  refine go (B := T1.setTop (mkF m 5 #[.val (.ref a1), .val (.int p2), .val (.int p3), .val (.int p4)] [(.int ne)])) (fun _ k => X1.arraylength hx (by rw [e1]; exact Ar2.1) (State.isArrayOf_alike hZ.alike Ar2.2.1) (g := (mkF m 4 #[.val (.ref a1), .val (.int p2), .val (.int p3), .val (.int p4)] [(.ref e')])) rfl rfl (hb hby d4_4) _ (by rw [len_of S2 N2_]; exact k)) ?_
  refine go (B := T1.setTop (mkF m 6 #[.val (.ref a1), .val (.int p2), .val (.int p3), .val (.int p4)] [(.int p2), (.int ne)])) (fun _ k => XS.iloadN X1.here hx rfl (hb hby d4_5) rfl k) ?_
  by_cases hc6 : ne < p2
  · refine go (B := T1.setTop (mkF m 9 #[.val (.ref a1), .val (.int p2), .val (.int p3), .val (.int p4)] [])) (fun _ k => XS.icmpNo X1.here hx rfl (hb hby d4_6) rfl (tlt hc6).2.1 k) ?_
    refine go (B := T1.setTop (mkF m 10 #[.val (.ref a1), .val (.int p2), .val (.int p3), .val (.int p4)] [(.ref a1)])) (fun _ k => XS.aloadN X1.here hx rfl (hb hby d4_9) rfl rfl k) ?_
    refine go (B := T1.setTop (mkF m 11 #[.val (.ref a1), .val (.int p2), .val (.int p3), .val (.int p4)] [(.int p2), (.ref a1)])) (fun _ k => XS.iloadN X1.here hx rfl (hb hby d4_10) rfl k) ?_
    obtain ⟨T3, h3, k3, X3, e3, E3, A3, st3⟩ := newP X1 hx hZ (hw _ (List.mem_of_getElem? (i := 12) rfl)) e1 (g := (mkF m 11 #[.val (.ref a1), .val (.int p2), .val (.int p3), .val (.int p4)] [(.int p2), (.ref a1)])) rfl (hb hby d4_11) rfl (nneg b00) (cap := 7) (ncl b01) (by decide) (by decide) (by decide)
    obtain ⟨b3, g3⟩ : ∃ z, z = Array.size (h0) := ⟨_, rfl⟩
    rw [← g3] at A3 st3
    have ne_a1_b3 : a1 ≠ b3 := Nat.ne_of_lt (Nat.lt_of_lt_of_le E_r.lt (Nat.le_of_eq g3.symm))
    have ne_t_b3 : t ≠ b3 := Nat.ne_of_lt (Nat.lt_of_lt_of_le V_t.lt (Nat.le_of_eq g3.symm))
    have ne_e'_b3 : e' ≠ b3 := Nat.ne_of_lt (Nat.lt_of_lt_of_le V_e.lt (Nat.le_of_eq g3.symm))
    have ne_d_b3 : d ≠ b3 := Nat.ne_of_lt (Nat.lt_of_lt_of_le V_d.lt (Nat.le_of_eq g3.symm))
    replace E_r := E_r.ext E3
    replace F_text := F_text.ext E3
    replace F_ends := F_ends.ext E3
    replace F_digits := F_digits.ext E3
    replace F_size := F_size.ext E3
    replace V_t := V_t.ext E3
    replace V_e := V_e.ext E3
    replace V_d := V_d.ext E3
    have g_b3 : n0 ≤ b3 := Nat.le_trans Zr (Nat.le_of_eq g3.symm)
    have Z3 : n0 ≤ h3.size := Nat.le_trans Zr E3.1
    have V_b3 := Arv.new A3 (nneg b00)
    refine go (B := T3.setTop (mkF m 13 #[.val (.ref a1), .val (.int p2), .val (.int p3), .val (.int p4)] [(.ref b3), (.ref a1)])) (fun _ k => st3 _ k) ?_
    obtain ⟨T4, h4, X4, e4, W4, st4⟩ := putF X3 hx hZ hown (host := "") (Or.inl (hw _ (List.mem_of_getElem? (i := 13) rfl))) Via.refl e3 F_ends E_r (Or.inl (hw _ (List.mem_of_getElem? (i := 14) rfl))) (hw _ (List.mem_of_getElem? (i := 1) rfl)) (ty := (.array .int)) (by decide) rfl rfl (g := (mkF m 13 #[.val (.ref a1), .val (.int p2), .val (.int p3), .val (.int p4)] [(.ref b3), (.ref a1)])) rfl rfl (hb hby d4_13)
    replace E_r := E_r.wr W4
    replace F_text := F_text.other W4 (Or.inr (slot_ne (Or.inl (hw _ (List.mem_of_getElem? (i := 11) rfl))) (Or.inl (hw _ (List.mem_of_getElem? (i := 14) rfl))) (by decide) (t := (.array .char)) (t' := (.array .int)) (by decide) (by decide)))
    replace F_ends := F_ends.same W4
    replace F_digits := F_digits.other W4 (Or.inr (slot_ne (Or.inl (hw _ (List.mem_of_getElem? (i := 16) rfl))) (Or.inl (hw _ (List.mem_of_getElem? (i := 14) rfl))) (by decide) (t := (.array .char)) (t' := (.array .int)) (by decide) (by decide)))
    replace F_size := F_size.other W4 (Or.inr (slot_ne (Or.inl (hw _ (List.mem_of_getElem? (i := 23) rfl))) (Or.inl (hw _ (List.mem_of_getElem? (i := 14) rfl))) (by decide) (t := .int) (t' := (.array .int)) (by decide) (by decide)))
    replace V_t := V_t.other W4 ne_t_r
    replace V_e := V_e.other W4 ne_e_r
    replace V_d := V_d.other W4 ne_d_r
    replace V_b3 := V_b3.other W4 (Ne.symm ne_a1_b3)
    have N4 := Fr.snoc X4 N0 g_a1
    have Z4 : n0 ≤ h4.size := Nat.le_trans Z3 (Keep.of_wr W4).1
    refine go (B := T4.setTop (mkF m 16 #[.val (.ref a1), .val (.int p2), .val (.int p3), .val (.int p4)] [])) (fun _ k => st4 _ k) ?_
    refine go (B := T4.setTop (mkF m 17 #[.val (.ref a1), .val (.int p2), .val (.int p3), .val (.int p4)] [(.ref a1)])) (fun _ k => XS.aloadN X4.here hx rfl (hb hby d4_16) rfl rfl k) ?_
    obtain ⟨T5, X5, e5, st5⟩ := getF X4 hx hZ hown (host := "") (Or.inl (hw _ (List.mem_of_getElem? (i := 10) rfl))) Via.refl e4 F_text (g := (mkF m 17 #[.val (.ref a1), .val (.int p2), .val (.int p3), .val (.int p4)] [(.ref a1)])) rfl rfl (hb hby d4_17)
    refine go (B := T5.setTop (mkF m 20 #[.val (.ref a1), .val (.int p2), .val (.int p3), .val (.int p4)] [(.ref t)])) (fun _ k => st5 _ k) ?_
    have Vc6 := V_t
    obtain ⟨cl6, Ar6, -, S6, N6_, -, -⟩ := Vc6
    refine go (B := T5.setTop (mkF m 21 #[.val (.ref a1), .val (.int p2), .val (.int p3), .val (.int p4)] [(.int nt)])) (fun _ k => X5.arraylength hx (by rw [e5]; exact Ar6.1) (State.isArrayOf_alike hZ.alike Ar6.2.1) (g := (mkF m 20 #[.val (.ref a1), .val (.int p2), .val (.int p3), .val (.int p4)] [(.ref t)])) rfl rfl (hb hby d4_20) _ (by rw [len_of S6 N6_]; exact k)) ?_
    refine go (B := T5.setTop (mkF m 22 #[.val (.ref a1), .val (.int p2), .val (.int p3), .val (.int p4)] [(.int p3), (.int nt)])) (fun _ k => XS.iloadN X5.here hx rfl (hb hby d4_21) rfl k) ?_
    by_cases hc22 : nt < p3
    · refine go (B := T5.setTop (mkF m 25 #[.val (.ref a1), .val (.int p2), .val (.int p3), .val (.int p4)] [])) (fun _ k => XS.icmpNo X5.here hx rfl (hb hby d4_22) rfl (tlt hc22).2.1 k) ?_
      refine go (B := T5.setTop (mkF m 26 #[.val (.ref a1), .val (.int p2), .val (.int p3), .val (.int p4)] [(.ref a1)])) (fun _ k => XS.aloadN X5.here hx rfl (hb hby d4_25) rfl rfl k) ?_
      refine go (B := T5.setTop (mkF m 27 #[.val (.ref a1), .val (.int p2), .val (.int p3), .val (.int p4)] [(.int p3), (.ref a1)])) (fun _ k => XS.iloadN X5.here hx rfl (hb hby d4_26) rfl k) ?_
      obtain ⟨T7, h7, k7, X7, e7, E7, A7, st7⟩ := newP X5 hx hZ (hw _ (List.mem_of_getElem? (i := 9) rfl)) e5 (g := (mkF m 27 #[.val (.ref a1), .val (.int p2), .val (.int p3), .val (.int p4)] [(.int p3), (.ref a1)])) rfl (hb hby d4_27) rfl (nneg b10) (cap := 15) (ncl b11) (by decide) (by decide) (by decide)
      obtain ⟨b7, g7⟩ : ∃ z, z = Array.size (h4) := ⟨_, rfl⟩
      rw [← g7] at A7 st7
      have ne_a1_b7 : a1 ≠ b7 := Nat.ne_of_lt (Nat.lt_of_lt_of_le E_r.lt (Nat.le_of_eq g7.symm))
      have ne_t_b7 : t ≠ b7 := Nat.ne_of_lt (Nat.lt_of_lt_of_le V_t.lt (Nat.le_of_eq g7.symm))
      have ne_e'_b7 : e' ≠ b7 := Nat.ne_of_lt (Nat.lt_of_lt_of_le V_e.lt (Nat.le_of_eq g7.symm))
      have ne_d_b7 : d ≠ b7 := Nat.ne_of_lt (Nat.lt_of_lt_of_le V_d.lt (Nat.le_of_eq g7.symm))
      have ne_b3_b7 : b3 ≠ b7 := Nat.ne_of_lt (Nat.lt_of_lt_of_le V_b3.lt (Nat.le_of_eq g7.symm))
      replace E_r := E_r.ext E7
      replace F_text := F_text.ext E7
      replace F_ends := F_ends.ext E7
      replace F_digits := F_digits.ext E7
      replace F_size := F_size.ext E7
      replace V_t := V_t.ext E7
      replace V_e := V_e.ext E7
      replace V_d := V_d.ext E7
      replace V_b3 := V_b3.ext E7
      have g_b7 : n0 ≤ b7 := Nat.le_trans Z4 (Nat.le_of_eq g7.symm)
      have Z7 : n0 ≤ h7.size := Nat.le_trans Z4 E7.1
      have V_b7 := Arv.new A7 (nneg b10)
      refine go (B := T7.setTop (mkF m 29 #[.val (.ref a1), .val (.int p2), .val (.int p3), .val (.int p4)] [(.ref b7), (.ref a1)])) (fun _ k => st7 _ k) ?_
      obtain ⟨T8, h8, X8, e8, W8, st8⟩ := putF X7 hx hZ hown (host := "") (Or.inl (hw _ (List.mem_of_getElem? (i := 10) rfl))) Via.refl e7 F_text E_r (Or.inl (hw _ (List.mem_of_getElem? (i := 11) rfl))) (hw _ (List.mem_of_getElem? (i := 1) rfl)) (ty := (.array .char)) (by decide) rfl rfl (g := (mkF m 29 #[.val (.ref a1), .val (.int p2), .val (.int p3), .val (.int p4)] [(.ref b7), (.ref a1)])) rfl rfl (hb hby d4_29)
      replace E_r := E_r.wr W8
      replace F_text := F_text.same W8
      replace F_ends := F_ends.other W8 (Or.inr (slot_ne (Or.inl (hw _ (List.mem_of_getElem? (i := 14) rfl))) (Or.inl (hw _ (List.mem_of_getElem? (i := 11) rfl))) (by decide) (t := (.array .int)) (t' := (.array .char)) (by decide) (by decide)))
      replace F_digits := F_digits.other W8 (Or.inr (slot_ne (Or.inl (hw _ (List.mem_of_getElem? (i := 16) rfl))) (Or.inl (hw _ (List.mem_of_getElem? (i := 11) rfl))) (by decide) (t := (.array .char)) (t' := (.array .char)) (by decide) (by decide)))
      replace F_size := F_size.other W8 (Or.inr (slot_ne (Or.inl (hw _ (List.mem_of_getElem? (i := 23) rfl))) (Or.inl (hw _ (List.mem_of_getElem? (i := 11) rfl))) (by decide) (t := .int) (t' := (.array .char)) (by decide) (by decide)))
      replace V_t := V_t.other W8 ne_t_r
      replace V_e := V_e.other W8 ne_e_r
      replace V_d := V_d.other W8 ne_d_r
      replace V_b3 := V_b3.other W8 (Ne.symm ne_a1_b3)
      replace V_b7 := V_b7.other W8 (Ne.symm ne_a1_b7)
      have N8 := Fr.snoc X8 N4 g_a1
      have Z8 : n0 ≤ h8.size := Nat.le_trans Z7 (Keep.of_wr W8).1
      refine go (B := T8.setTop (mkF m 32 #[.val (.ref a1), .val (.int p2), .val (.int p3), .val (.int p4)] [])) (fun _ k => st8 _ k) ?_
      refine go (B := T8.setTop (mkF m 33 #[.val (.ref a1), .val (.int p2), .val (.int p3), .val (.int p4)] [(.ref a1)])) (fun _ k => XS.aloadN X8.here hx rfl (hb hby d4_32) rfl rfl k) ?_
      obtain ⟨T9, X9, e9, st9⟩ := getF X8 hx hZ hown (host := "") (Or.inl (hw _ (List.mem_of_getElem? (i := 15) rfl))) Via.refl e8 F_digits (g := (mkF m 33 #[.val (.ref a1), .val (.int p2), .val (.int p3), .val (.int p4)] [(.ref a1)])) rfl rfl (hb hby d4_33)
      refine go (B := T9.setTop (mkF m 36 #[.val (.ref a1), .val (.int p2), .val (.int p3), .val (.int p4)] [(.ref d)])) (fun _ k => st9 _ k) ?_
      have Vc10 := V_d
      obtain ⟨cl10, Ar10, -, S10, N10_, -, -⟩ := Vc10
      refine go (B := T9.setTop (mkF m 37 #[.val (.ref a1), .val (.int p2), .val (.int p3), .val (.int p4)] [(.int nd)])) (fun _ k => X9.arraylength hx (by rw [e9]; exact Ar10.1) (State.isArrayOf_alike hZ.alike Ar10.2.1) (g := (mkF m 36 #[.val (.ref a1), .val (.int p2), .val (.int p3), .val (.int p4)] [(.ref d)])) rfl rfl (hb hby d4_36) _ (by rw [len_of S10 N10_]; exact k)) ?_
      refine go (B := T9.setTop (mkF m 38 #[.val (.ref a1), .val (.int p2), .val (.int p3), .val (.int p4)] [(.int p4), (.int nd)])) (fun _ k => XS.iloadN X9.here hx rfl (hb hby d4_37) rfl k) ?_
      by_cases hc38 : nd < p4
      · refine go (B := T9.setTop (mkF m 41 #[.val (.ref a1), .val (.int p2), .val (.int p3), .val (.int p4)] [])) (fun _ k => XS.icmpNo X9.here hx rfl (hb hby d4_38) rfl (tlt hc38).2.1 k) ?_
        refine go (B := T9.setTop (mkF m 42 #[.val (.ref a1), .val (.int p2), .val (.int p3), .val (.int p4)] [(.ref a1)])) (fun _ k => XS.aloadN X9.here hx rfl (hb hby d4_41) rfl rfl k) ?_
        refine go (B := T9.setTop (mkF m 43 #[.val (.ref a1), .val (.int p2), .val (.int p3), .val (.int p4)] [(.int p4), (.ref a1)])) (fun _ k => XS.iloadN X9.here hx rfl (hb hby d4_42) rfl k) ?_
        obtain ⟨T11, h11, k11, X11, e11, E11, A11, st11⟩ := newP X9 hx hZ (hw _ (List.mem_of_getElem? (i := 9) rfl)) e9 (g := (mkF m 43 #[.val (.ref a1), .val (.int p2), .val (.int p3), .val (.int p4)] [(.int p4), (.ref a1)])) rfl (hb hby d4_43) rfl (nneg b20) (cap := 15) (ncl b21) (by decide) (by decide) (by decide)
        obtain ⟨b11, g11⟩ : ∃ z, z = Array.size (h8) := ⟨_, rfl⟩
        rw [← g11] at A11 st11
        have ne_a1_b11 : a1 ≠ b11 := Nat.ne_of_lt (Nat.lt_of_lt_of_le E_r.lt (Nat.le_of_eq g11.symm))
        have ne_t_b11 : t ≠ b11 := Nat.ne_of_lt (Nat.lt_of_lt_of_le V_t.lt (Nat.le_of_eq g11.symm))
        have ne_e'_b11 : e' ≠ b11 := Nat.ne_of_lt (Nat.lt_of_lt_of_le V_e.lt (Nat.le_of_eq g11.symm))
        have ne_d_b11 : d ≠ b11 := Nat.ne_of_lt (Nat.lt_of_lt_of_le V_d.lt (Nat.le_of_eq g11.symm))
        have ne_b3_b11 : b3 ≠ b11 := Nat.ne_of_lt (Nat.lt_of_lt_of_le V_b3.lt (Nat.le_of_eq g11.symm))
        have ne_b7_b11 : b7 ≠ b11 := Nat.ne_of_lt (Nat.lt_of_lt_of_le V_b7.lt (Nat.le_of_eq g11.symm))
        replace E_r := E_r.ext E11
        replace F_text := F_text.ext E11
        replace F_ends := F_ends.ext E11
        replace F_digits := F_digits.ext E11
        replace F_size := F_size.ext E11
        replace V_t := V_t.ext E11
        replace V_e := V_e.ext E11
        replace V_d := V_d.ext E11
        replace V_b3 := V_b3.ext E11
        replace V_b7 := V_b7.ext E11
        have g_b11 : n0 ≤ b11 := Nat.le_trans Z8 (Nat.le_of_eq g11.symm)
        have Z11 : n0 ≤ h11.size := Nat.le_trans Z8 E11.1
        have V_b11 := Arv.new A11 (nneg b20)
        refine go (B := T11.setTop (mkF m 45 #[.val (.ref a1), .val (.int p2), .val (.int p3), .val (.int p4)] [(.ref b11), (.ref a1)])) (fun _ k => st11 _ k) ?_
        obtain ⟨T12, h12, X12, e12, W12, st12⟩ := putF X11 hx hZ hown (host := "") (Or.inl (hw _ (List.mem_of_getElem? (i := 15) rfl))) Via.refl e11 F_digits E_r (Or.inl (hw _ (List.mem_of_getElem? (i := 16) rfl))) (hw _ (List.mem_of_getElem? (i := 1) rfl)) (ty := (.array .char)) (by decide) rfl rfl (g := (mkF m 45 #[.val (.ref a1), .val (.int p2), .val (.int p3), .val (.int p4)] [(.ref b11), (.ref a1)])) rfl rfl (hb hby d4_45)
        replace E_r := E_r.wr W12
        replace F_text := F_text.other W12 (Or.inr (slot_ne (Or.inl (hw _ (List.mem_of_getElem? (i := 11) rfl))) (Or.inl (hw _ (List.mem_of_getElem? (i := 16) rfl))) (by decide) (t := (.array .char)) (t' := (.array .char)) (by decide) (by decide)))
        replace F_ends := F_ends.other W12 (Or.inr (slot_ne (Or.inl (hw _ (List.mem_of_getElem? (i := 14) rfl))) (Or.inl (hw _ (List.mem_of_getElem? (i := 16) rfl))) (by decide) (t := (.array .int)) (t' := (.array .char)) (by decide) (by decide)))
        replace F_digits := F_digits.same W12
        replace F_size := F_size.other W12 (Or.inr (slot_ne (Or.inl (hw _ (List.mem_of_getElem? (i := 23) rfl))) (Or.inl (hw _ (List.mem_of_getElem? (i := 16) rfl))) (by decide) (t := .int) (t' := (.array .char)) (by decide) (by decide)))
        replace V_t := V_t.other W12 ne_t_r
        replace V_e := V_e.other W12 ne_e_r
        replace V_d := V_d.other W12 ne_d_r
        replace V_b3 := V_b3.other W12 (Ne.symm ne_a1_b3)
        replace V_b7 := V_b7.other W12 (Ne.symm ne_a1_b7)
        replace V_b11 := V_b11.other W12 (Ne.symm ne_a1_b11)
        have N12 := Fr.snoc X12 N8 g_a1
        have Z12 : n0 ≤ h12.size := Nat.le_trans Z11 (Keep.of_wr W12).1
        refine go (B := T12.setTop (mkF m 48 #[.val (.ref a1), .val (.int p2), .val (.int p3), .val (.int p4)] [])) (fun _ k => st12 _ k) ?_
        refine go (B := T12.setTop (mkF m 49 #[.val (.ref a1), .val (.int p2), .val (.int p3), .val (.int p4)] [(.ref a1)])) (fun _ k => XS.aloadN X12.here hx rfl (hb hby d4_48) rfl rfl k) ?_
        refine go (B := T12.setTop (mkF m 50 #[.val (.ref a1), .val (.int p2), .val (.int p3), .val (.int p4)] [(.int (0 : Int32)), (.ref a1)])) (fun _ k => XS.iconst X12.here hx rfl (hb hby d4_49) k) ?_
        obtain ⟨T13, h13, X13, e13, W13, st13⟩ := putF X12 hx hZ hown (host := "") (Or.inl (hw _ (List.mem_of_getElem? (i := 22) rfl))) Via.refl e12 F_size E_r (Or.inl (hw _ (List.mem_of_getElem? (i := 23) rfl))) (hw _ (List.mem_of_getElem? (i := 1) rfl)) (ty := .int) (by decide) rfl rfl (g := (mkF m 50 #[.val (.ref a1), .val (.int p2), .val (.int p3), .val (.int p4)] [(.int (0 : Int32)), (.ref a1)])) rfl rfl (hb hby d4_50)
        replace E_r := E_r.wr W13
        replace F_text := F_text.other W13 (Or.inr (slot_ne (Or.inl (hw _ (List.mem_of_getElem? (i := 11) rfl))) (Or.inl (hw _ (List.mem_of_getElem? (i := 23) rfl))) (by decide) (t := (.array .char)) (t' := .int) (by decide) (by decide)))
        replace F_ends := F_ends.other W13 (Or.inr (slot_ne (Or.inl (hw _ (List.mem_of_getElem? (i := 14) rfl))) (Or.inl (hw _ (List.mem_of_getElem? (i := 23) rfl))) (by decide) (t := (.array .int)) (t' := .int) (by decide) (by decide)))
        replace F_digits := F_digits.other W13 (Or.inr (slot_ne (Or.inl (hw _ (List.mem_of_getElem? (i := 16) rfl))) (Or.inl (hw _ (List.mem_of_getElem? (i := 23) rfl))) (by decide) (t := (.array .char)) (t' := .int) (by decide) (by decide)))
        replace F_size := F_size.same W13
        replace V_t := V_t.other W13 ne_t_r
        replace V_e := V_e.other W13 ne_e_r
        replace V_d := V_d.other W13 ne_d_r
        replace V_b3 := V_b3.other W13 (Ne.symm ne_a1_b3)
        replace V_b7 := V_b7.other W13 (Ne.symm ne_a1_b7)
        replace V_b11 := V_b11.other W13 (Ne.symm ne_a1_b11)
        have N13 := Fr.snoc X13 N12 g_a1
        have Z13 : n0 ≤ h13.size := Nat.le_trans Z12 (Keep.of_wr W13).1
        refine go (B := T13.setTop (mkF m 53 #[.val (.ref a1), .val (.int p2), .val (.int p3), .val (.int p4)] [])) (fun _ k => st13 _ k) ?_
        refine goRetV X13 hx Bd.returns hlk (hb hby d4_53) ?_ (by decide) (by decide)
        rw [e13]
        have m0 : mx ne p2 = p2 := if_pos hc6
        have m1 : mx nt p3 = p3 := if_pos hc22
        have m2 : mx nd p4 = p4 := if_pos hc38
        unfold Q4
        rw [m0, m1, m2]
        exact ⟨rfl, N13, _, _, _, 0, ⟨E_r, F_text, F_ends, F_digits, F_size, ⟨_, _, V_b7⟩, ⟨_, _, V_b3, fun q => absurd rfl q⟩, ⟨_, _, V_b11⟩, g_a1, g_b3, (Ne.symm ne_a1_b7), (Ne.symm ne_a1_b3), (Ne.symm ne_a1_b11), (Ne.symm ne_b3_b7), (Ne.symm ne_b3_b11), Z13⟩, fun q => absurd hc22 q, fun q => absurd hc38 q, ⟨_, _, V_t⟩, ⟨_, _, V_d⟩⟩
      · refine go (B := T9.setTop (mkF m 48 #[.val (.ref a1), .val (.int p2), .val (.int p3), .val (.int p4)] [])) (fun _ k => XS.icmpYes X9.here hx rfl (pc0 := 38) (pc' := 48) rfl (hb hby d4_38) rfl (flt hc38).2.1 (by decide) (by decide) k) ?_
        refine go (B := T9.setTop (mkF m 49 #[.val (.ref a1), .val (.int p2), .val (.int p3), .val (.int p4)] [(.ref a1)])) (fun _ k => XS.aloadN X9.here hx rfl (hb hby d4_48) rfl rfl k) ?_
        refine go (B := T9.setTop (mkF m 50 #[.val (.ref a1), .val (.int p2), .val (.int p3), .val (.int p4)] [(.int (0 : Int32)), (.ref a1)])) (fun _ k => XS.iconst X9.here hx rfl (hb hby d4_49) k) ?_
        obtain ⟨T14, h14, X14, e14, W14, st14⟩ := putF X9 hx hZ hown (host := "") (Or.inl (hw _ (List.mem_of_getElem? (i := 22) rfl))) Via.refl e9 F_size E_r (Or.inl (hw _ (List.mem_of_getElem? (i := 23) rfl))) (hw _ (List.mem_of_getElem? (i := 1) rfl)) (ty := .int) (by decide) rfl rfl (g := (mkF m 50 #[.val (.ref a1), .val (.int p2), .val (.int p3), .val (.int p4)] [(.int (0 : Int32)), (.ref a1)])) rfl rfl (hb hby d4_50)
        replace E_r := E_r.wr W14
        replace F_text := F_text.other W14 (Or.inr (slot_ne (Or.inl (hw _ (List.mem_of_getElem? (i := 11) rfl))) (Or.inl (hw _ (List.mem_of_getElem? (i := 23) rfl))) (by decide) (t := (.array .char)) (t' := .int) (by decide) (by decide)))
        replace F_ends := F_ends.other W14 (Or.inr (slot_ne (Or.inl (hw _ (List.mem_of_getElem? (i := 14) rfl))) (Or.inl (hw _ (List.mem_of_getElem? (i := 23) rfl))) (by decide) (t := (.array .int)) (t' := .int) (by decide) (by decide)))
        replace F_digits := F_digits.other W14 (Or.inr (slot_ne (Or.inl (hw _ (List.mem_of_getElem? (i := 16) rfl))) (Or.inl (hw _ (List.mem_of_getElem? (i := 23) rfl))) (by decide) (t := (.array .char)) (t' := .int) (by decide) (by decide)))
        replace F_size := F_size.same W14
        replace V_t := V_t.other W14 ne_t_r
        replace V_e := V_e.other W14 ne_e_r
        replace V_d := V_d.other W14 ne_d_r
        replace V_b3 := V_b3.other W14 (Ne.symm ne_a1_b3)
        replace V_b7 := V_b7.other W14 (Ne.symm ne_a1_b7)
        have N14 := Fr.snoc X14 N8 g_a1
        have Z14 : n0 ≤ h14.size := Nat.le_trans Z8 (Keep.of_wr W14).1
        refine go (B := T14.setTop (mkF m 53 #[.val (.ref a1), .val (.int p2), .val (.int p3), .val (.int p4)] [])) (fun _ k => st14 _ k) ?_
        refine goRetV X14 hx Bd.returns hlk (hb hby d4_53) ?_ (by decide) (by decide)
        rw [e14]
        have m0 : mx ne p2 = p2 := if_pos hc6
        have m1 : mx nt p3 = p3 := if_pos hc22
        have m2 : mx nd p4 = nd := if_neg hc38
        unfold Q4
        rw [m0, m1, m2]
        exact ⟨rfl, N14, _, _, _, 0, ⟨E_r, F_text, F_ends, F_digits, F_size, ⟨_, _, V_b7⟩, ⟨_, _, V_b3, fun q => absurd rfl q⟩, ⟨_, _, V_d⟩, g_a1, g_b3, (Ne.symm ne_a1_b7), (Ne.symm ne_a1_b3), ne_d_r, (Ne.symm ne_b3_b7), ne_d_b3, Z14⟩, fun q => absurd hc22 q, fun _ => rfl, ⟨_, _, V_t⟩, ⟨_, _, V_d⟩⟩
    · refine go (B := T5.setTop (mkF m 32 #[.val (.ref a1), .val (.int p2), .val (.int p3), .val (.int p4)] [])) (fun _ k => XS.icmpYes X5.here hx rfl (pc0 := 22) (pc' := 32) rfl (hb hby d4_22) rfl (flt hc22).2.1 (by decide) (by decide) k) ?_
      refine go (B := T5.setTop (mkF m 33 #[.val (.ref a1), .val (.int p2), .val (.int p3), .val (.int p4)] [(.ref a1)])) (fun _ k => XS.aloadN X5.here hx rfl (hb hby d4_32) rfl rfl k) ?_
      obtain ⟨T15, X15, e15, st15⟩ := getF X5 hx hZ hown (host := "") (Or.inl (hw _ (List.mem_of_getElem? (i := 15) rfl))) Via.refl e5 F_digits (g := (mkF m 33 #[.val (.ref a1), .val (.int p2), .val (.int p3), .val (.int p4)] [(.ref a1)])) rfl rfl (hb hby d4_33)
      refine go (B := T15.setTop (mkF m 36 #[.val (.ref a1), .val (.int p2), .val (.int p3), .val (.int p4)] [(.ref d)])) (fun _ k => st15 _ k) ?_
      have Vc16 := V_d
      obtain ⟨cl16, Ar16, -, S16, N16_, -, -⟩ := Vc16
      refine go (B := T15.setTop (mkF m 37 #[.val (.ref a1), .val (.int p2), .val (.int p3), .val (.int p4)] [(.int nd)])) (fun _ k => X15.arraylength hx (by rw [e15]; exact Ar16.1) (State.isArrayOf_alike hZ.alike Ar16.2.1) (g := (mkF m 36 #[.val (.ref a1), .val (.int p2), .val (.int p3), .val (.int p4)] [(.ref d)])) rfl rfl (hb hby d4_36) _ (by rw [len_of S16 N16_]; exact k)) ?_
      refine go (B := T15.setTop (mkF m 38 #[.val (.ref a1), .val (.int p2), .val (.int p3), .val (.int p4)] [(.int p4), (.int nd)])) (fun _ k => XS.iloadN X15.here hx rfl (hb hby d4_37) rfl k) ?_
      by_cases hc38 : nd < p4
      · refine go (B := T15.setTop (mkF m 41 #[.val (.ref a1), .val (.int p2), .val (.int p3), .val (.int p4)] [])) (fun _ k => XS.icmpNo X15.here hx rfl (hb hby d4_38) rfl (tlt hc38).2.1 k) ?_
        refine go (B := T15.setTop (mkF m 42 #[.val (.ref a1), .val (.int p2), .val (.int p3), .val (.int p4)] [(.ref a1)])) (fun _ k => XS.aloadN X15.here hx rfl (hb hby d4_41) rfl rfl k) ?_
        refine go (B := T15.setTop (mkF m 43 #[.val (.ref a1), .val (.int p2), .val (.int p3), .val (.int p4)] [(.int p4), (.ref a1)])) (fun _ k => XS.iloadN X15.here hx rfl (hb hby d4_42) rfl k) ?_
        obtain ⟨T17, h17, k17, X17, e17, E17, A17, st17⟩ := newP X15 hx hZ (hw _ (List.mem_of_getElem? (i := 9) rfl)) e15 (g := (mkF m 43 #[.val (.ref a1), .val (.int p2), .val (.int p3), .val (.int p4)] [(.int p4), (.ref a1)])) rfl (hb hby d4_43) rfl (nneg b20) (cap := 15) (ncl b21) (by decide) (by decide) (by decide)
        obtain ⟨b17, g17⟩ : ∃ z, z = Array.size (h4) := ⟨_, rfl⟩
        rw [← g17] at A17 st17
        have ne_a1_b17 : a1 ≠ b17 := Nat.ne_of_lt (Nat.lt_of_lt_of_le E_r.lt (Nat.le_of_eq g17.symm))
        have ne_t_b17 : t ≠ b17 := Nat.ne_of_lt (Nat.lt_of_lt_of_le V_t.lt (Nat.le_of_eq g17.symm))
        have ne_e'_b17 : e' ≠ b17 := Nat.ne_of_lt (Nat.lt_of_lt_of_le V_e.lt (Nat.le_of_eq g17.symm))
        have ne_d_b17 : d ≠ b17 := Nat.ne_of_lt (Nat.lt_of_lt_of_le V_d.lt (Nat.le_of_eq g17.symm))
        have ne_b3_b17 : b3 ≠ b17 := Nat.ne_of_lt (Nat.lt_of_lt_of_le V_b3.lt (Nat.le_of_eq g17.symm))
        replace E_r := E_r.ext E17
        replace F_text := F_text.ext E17
        replace F_ends := F_ends.ext E17
        replace F_digits := F_digits.ext E17
        replace F_size := F_size.ext E17
        replace V_t := V_t.ext E17
        replace V_e := V_e.ext E17
        replace V_d := V_d.ext E17
        replace V_b3 := V_b3.ext E17
        have g_b17 : n0 ≤ b17 := Nat.le_trans Z4 (Nat.le_of_eq g17.symm)
        have Z17 : n0 ≤ h17.size := Nat.le_trans Z4 E17.1
        have V_b17 := Arv.new A17 (nneg b20)
        refine go (B := T17.setTop (mkF m 45 #[.val (.ref a1), .val (.int p2), .val (.int p3), .val (.int p4)] [(.ref b17), (.ref a1)])) (fun _ k => st17 _ k) ?_
        obtain ⟨T18, h18, X18, e18, W18, st18⟩ := putF X17 hx hZ hown (host := "") (Or.inl (hw _ (List.mem_of_getElem? (i := 15) rfl))) Via.refl e17 F_digits E_r (Or.inl (hw _ (List.mem_of_getElem? (i := 16) rfl))) (hw _ (List.mem_of_getElem? (i := 1) rfl)) (ty := (.array .char)) (by decide) rfl rfl (g := (mkF m 45 #[.val (.ref a1), .val (.int p2), .val (.int p3), .val (.int p4)] [(.ref b17), (.ref a1)])) rfl rfl (hb hby d4_45)
        replace E_r := E_r.wr W18
        replace F_text := F_text.other W18 (Or.inr (slot_ne (Or.inl (hw _ (List.mem_of_getElem? (i := 11) rfl))) (Or.inl (hw _ (List.mem_of_getElem? (i := 16) rfl))) (by decide) (t := (.array .char)) (t' := (.array .char)) (by decide) (by decide)))
        replace F_ends := F_ends.other W18 (Or.inr (slot_ne (Or.inl (hw _ (List.mem_of_getElem? (i := 14) rfl))) (Or.inl (hw _ (List.mem_of_getElem? (i := 16) rfl))) (by decide) (t := (.array .int)) (t' := (.array .char)) (by decide) (by decide)))
        replace F_digits := F_digits.same W18
        replace F_size := F_size.other W18 (Or.inr (slot_ne (Or.inl (hw _ (List.mem_of_getElem? (i := 23) rfl))) (Or.inl (hw _ (List.mem_of_getElem? (i := 16) rfl))) (by decide) (t := .int) (t' := (.array .char)) (by decide) (by decide)))
        replace V_t := V_t.other W18 ne_t_r
        replace V_e := V_e.other W18 ne_e_r
        replace V_d := V_d.other W18 ne_d_r
        replace V_b3 := V_b3.other W18 (Ne.symm ne_a1_b3)
        replace V_b17 := V_b17.other W18 (Ne.symm ne_a1_b17)
        have N18 := Fr.snoc X18 N4 g_a1
        have Z18 : n0 ≤ h18.size := Nat.le_trans Z17 (Keep.of_wr W18).1
        refine go (B := T18.setTop (mkF m 48 #[.val (.ref a1), .val (.int p2), .val (.int p3), .val (.int p4)] [])) (fun _ k => st18 _ k) ?_
        refine go (B := T18.setTop (mkF m 49 #[.val (.ref a1), .val (.int p2), .val (.int p3), .val (.int p4)] [(.ref a1)])) (fun _ k => XS.aloadN X18.here hx rfl (hb hby d4_48) rfl rfl k) ?_
        refine go (B := T18.setTop (mkF m 50 #[.val (.ref a1), .val (.int p2), .val (.int p3), .val (.int p4)] [(.int (0 : Int32)), (.ref a1)])) (fun _ k => XS.iconst X18.here hx rfl (hb hby d4_49) k) ?_
        obtain ⟨T19, h19, X19, e19, W19, st19⟩ := putF X18 hx hZ hown (host := "") (Or.inl (hw _ (List.mem_of_getElem? (i := 22) rfl))) Via.refl e18 F_size E_r (Or.inl (hw _ (List.mem_of_getElem? (i := 23) rfl))) (hw _ (List.mem_of_getElem? (i := 1) rfl)) (ty := .int) (by decide) rfl rfl (g := (mkF m 50 #[.val (.ref a1), .val (.int p2), .val (.int p3), .val (.int p4)] [(.int (0 : Int32)), (.ref a1)])) rfl rfl (hb hby d4_50)
        replace E_r := E_r.wr W19
        replace F_text := F_text.other W19 (Or.inr (slot_ne (Or.inl (hw _ (List.mem_of_getElem? (i := 11) rfl))) (Or.inl (hw _ (List.mem_of_getElem? (i := 23) rfl))) (by decide) (t := (.array .char)) (t' := .int) (by decide) (by decide)))
        replace F_ends := F_ends.other W19 (Or.inr (slot_ne (Or.inl (hw _ (List.mem_of_getElem? (i := 14) rfl))) (Or.inl (hw _ (List.mem_of_getElem? (i := 23) rfl))) (by decide) (t := (.array .int)) (t' := .int) (by decide) (by decide)))
        replace F_digits := F_digits.other W19 (Or.inr (slot_ne (Or.inl (hw _ (List.mem_of_getElem? (i := 16) rfl))) (Or.inl (hw _ (List.mem_of_getElem? (i := 23) rfl))) (by decide) (t := (.array .char)) (t' := .int) (by decide) (by decide)))
        replace F_size := F_size.same W19
        replace V_t := V_t.other W19 ne_t_r
        replace V_e := V_e.other W19 ne_e_r
        replace V_d := V_d.other W19 ne_d_r
        replace V_b3 := V_b3.other W19 (Ne.symm ne_a1_b3)
        replace V_b17 := V_b17.other W19 (Ne.symm ne_a1_b17)
        have N19 := Fr.snoc X19 N18 g_a1
        have Z19 : n0 ≤ h19.size := Nat.le_trans Z18 (Keep.of_wr W19).1
        refine go (B := T19.setTop (mkF m 53 #[.val (.ref a1), .val (.int p2), .val (.int p3), .val (.int p4)] [])) (fun _ k => st19 _ k) ?_
        refine goRetV X19 hx Bd.returns hlk (hb hby d4_53) ?_ (by decide) (by decide)
        rw [e19]
        have m0 : mx ne p2 = p2 := if_pos hc6
        have m1 : mx nt p3 = nt := if_neg hc22
        have m2 : mx nd p4 = p4 := if_pos hc38
        unfold Q4
        rw [m0, m1, m2]
        exact ⟨rfl, N19, _, _, _, 0, ⟨E_r, F_text, F_ends, F_digits, F_size, ⟨_, _, V_t⟩, ⟨_, _, V_b3, fun q => absurd rfl q⟩, ⟨_, _, V_b17⟩, g_a1, g_b3, ne_t_r, (Ne.symm ne_a1_b3), (Ne.symm ne_a1_b17), ne_t_b3, (Ne.symm ne_b3_b17), Z19⟩, fun _ => rfl, fun q => absurd hc38 q, ⟨_, _, V_t⟩, ⟨_, _, V_d⟩⟩
      · refine go (B := T15.setTop (mkF m 48 #[.val (.ref a1), .val (.int p2), .val (.int p3), .val (.int p4)] [])) (fun _ k => XS.icmpYes X15.here hx rfl (pc0 := 38) (pc' := 48) rfl (hb hby d4_38) rfl (flt hc38).2.1 (by decide) (by decide) k) ?_
        refine go (B := T15.setTop (mkF m 49 #[.val (.ref a1), .val (.int p2), .val (.int p3), .val (.int p4)] [(.ref a1)])) (fun _ k => XS.aloadN X15.here hx rfl (hb hby d4_48) rfl rfl k) ?_
        refine go (B := T15.setTop (mkF m 50 #[.val (.ref a1), .val (.int p2), .val (.int p3), .val (.int p4)] [(.int (0 : Int32)), (.ref a1)])) (fun _ k => XS.iconst X15.here hx rfl (hb hby d4_49) k) ?_
        obtain ⟨T20, h20, X20, e20, W20, st20⟩ := putF X15 hx hZ hown (host := "") (Or.inl (hw _ (List.mem_of_getElem? (i := 22) rfl))) Via.refl e15 F_size E_r (Or.inl (hw _ (List.mem_of_getElem? (i := 23) rfl))) (hw _ (List.mem_of_getElem? (i := 1) rfl)) (ty := .int) (by decide) rfl rfl (g := (mkF m 50 #[.val (.ref a1), .val (.int p2), .val (.int p3), .val (.int p4)] [(.int (0 : Int32)), (.ref a1)])) rfl rfl (hb hby d4_50)
        replace E_r := E_r.wr W20
        replace F_text := F_text.other W20 (Or.inr (slot_ne (Or.inl (hw _ (List.mem_of_getElem? (i := 11) rfl))) (Or.inl (hw _ (List.mem_of_getElem? (i := 23) rfl))) (by decide) (t := (.array .char)) (t' := .int) (by decide) (by decide)))
        replace F_ends := F_ends.other W20 (Or.inr (slot_ne (Or.inl (hw _ (List.mem_of_getElem? (i := 14) rfl))) (Or.inl (hw _ (List.mem_of_getElem? (i := 23) rfl))) (by decide) (t := (.array .int)) (t' := .int) (by decide) (by decide)))
        replace F_digits := F_digits.other W20 (Or.inr (slot_ne (Or.inl (hw _ (List.mem_of_getElem? (i := 16) rfl))) (Or.inl (hw _ (List.mem_of_getElem? (i := 23) rfl))) (by decide) (t := (.array .char)) (t' := .int) (by decide) (by decide)))
        replace F_size := F_size.same W20
        replace V_t := V_t.other W20 ne_t_r
        replace V_e := V_e.other W20 ne_e_r
        replace V_d := V_d.other W20 ne_d_r
        replace V_b3 := V_b3.other W20 (Ne.symm ne_a1_b3)
        have N20 := Fr.snoc X20 N4 g_a1
        have Z20 : n0 ≤ h20.size := Nat.le_trans Z4 (Keep.of_wr W20).1
        refine go (B := T20.setTop (mkF m 53 #[.val (.ref a1), .val (.int p2), .val (.int p3), .val (.int p4)] [])) (fun _ k => st20 _ k) ?_
        refine goRetV X20 hx Bd.returns hlk (hb hby d4_53) ?_ (by decide) (by decide)
        rw [e20]
        have m0 : mx ne p2 = p2 := if_pos hc6
        have m1 : mx nt p3 = nt := if_neg hc22
        have m2 : mx nd p4 = nd := if_neg hc38
        unfold Q4
        rw [m0, m1, m2]
        exact ⟨rfl, N20, _, _, _, 0, ⟨E_r, F_text, F_ends, F_digits, F_size, ⟨_, _, V_t⟩, ⟨_, _, V_b3, fun q => absurd rfl q⟩, ⟨_, _, V_d⟩, g_a1, g_b3, ne_t_r, (Ne.symm ne_a1_b3), ne_d_r, ne_t_b3, ne_d_b3, Z20⟩, fun _ => rfl, fun _ => rfl, ⟨_, _, V_t⟩, ⟨_, _, V_d⟩⟩
  · refine go (B := T1.setTop (mkF m 16 #[.val (.ref a1), .val (.int p2), .val (.int p3), .val (.int p4)] [])) (fun _ k => XS.icmpYes X1.here hx rfl (pc0 := 6) (pc' := 16) rfl (hb hby d4_6) rfl (flt hc6).2.1 (by decide) (by decide) k) ?_
    refine go (B := T1.setTop (mkF m 17 #[.val (.ref a1), .val (.int p2), .val (.int p3), .val (.int p4)] [(.ref a1)])) (fun _ k => XS.aloadN X1.here hx rfl (hb hby d4_16) rfl rfl k) ?_
    obtain ⟨T21, X21, e21, st21⟩ := getF X1 hx hZ hown (host := "") (Or.inl (hw _ (List.mem_of_getElem? (i := 10) rfl))) Via.refl e1 F_text (g := (mkF m 17 #[.val (.ref a1), .val (.int p2), .val (.int p3), .val (.int p4)] [(.ref a1)])) rfl rfl (hb hby d4_17)
    refine go (B := T21.setTop (mkF m 20 #[.val (.ref a1), .val (.int p2), .val (.int p3), .val (.int p4)] [(.ref t)])) (fun _ k => st21 _ k) ?_
    have Vc22 := V_t
    obtain ⟨cl22, Ar22, -, S22, N22_, -, -⟩ := Vc22
    refine go (B := T21.setTop (mkF m 21 #[.val (.ref a1), .val (.int p2), .val (.int p3), .val (.int p4)] [(.int nt)])) (fun _ k => X21.arraylength hx (by rw [e21]; exact Ar22.1) (State.isArrayOf_alike hZ.alike Ar22.2.1) (g := (mkF m 20 #[.val (.ref a1), .val (.int p2), .val (.int p3), .val (.int p4)] [(.ref t)])) rfl rfl (hb hby d4_20) _ (by rw [len_of S22 N22_]; exact k)) ?_
    refine go (B := T21.setTop (mkF m 22 #[.val (.ref a1), .val (.int p2), .val (.int p3), .val (.int p4)] [(.int p3), (.int nt)])) (fun _ k => XS.iloadN X21.here hx rfl (hb hby d4_21) rfl k) ?_
    by_cases hc22 : nt < p3
    · refine go (B := T21.setTop (mkF m 25 #[.val (.ref a1), .val (.int p2), .val (.int p3), .val (.int p4)] [])) (fun _ k => XS.icmpNo X21.here hx rfl (hb hby d4_22) rfl (tlt hc22).2.1 k) ?_
      refine go (B := T21.setTop (mkF m 26 #[.val (.ref a1), .val (.int p2), .val (.int p3), .val (.int p4)] [(.ref a1)])) (fun _ k => XS.aloadN X21.here hx rfl (hb hby d4_25) rfl rfl k) ?_
      refine go (B := T21.setTop (mkF m 27 #[.val (.ref a1), .val (.int p2), .val (.int p3), .val (.int p4)] [(.int p3), (.ref a1)])) (fun _ k => XS.iloadN X21.here hx rfl (hb hby d4_26) rfl k) ?_
      obtain ⟨T23, h23, k23, X23, e23, E23, A23, st23⟩ := newP X21 hx hZ (hw _ (List.mem_of_getElem? (i := 9) rfl)) e21 (g := (mkF m 27 #[.val (.ref a1), .val (.int p2), .val (.int p3), .val (.int p4)] [(.int p3), (.ref a1)])) rfl (hb hby d4_27) rfl (nneg b10) (cap := 15) (ncl b11) (by decide) (by decide) (by decide)
      obtain ⟨b23, g23⟩ : ∃ z, z = Array.size (h0) := ⟨_, rfl⟩
      rw [← g23] at A23 st23
      have ne_a1_b23 : a1 ≠ b23 := Nat.ne_of_lt (Nat.lt_of_lt_of_le E_r.lt (Nat.le_of_eq g23.symm))
      have ne_t_b23 : t ≠ b23 := Nat.ne_of_lt (Nat.lt_of_lt_of_le V_t.lt (Nat.le_of_eq g23.symm))
      have ne_e'_b23 : e' ≠ b23 := Nat.ne_of_lt (Nat.lt_of_lt_of_le V_e.lt (Nat.le_of_eq g23.symm))
      have ne_d_b23 : d ≠ b23 := Nat.ne_of_lt (Nat.lt_of_lt_of_le V_d.lt (Nat.le_of_eq g23.symm))
      replace E_r := E_r.ext E23
      replace F_text := F_text.ext E23
      replace F_ends := F_ends.ext E23
      replace F_digits := F_digits.ext E23
      replace F_size := F_size.ext E23
      replace V_t := V_t.ext E23
      replace V_e := V_e.ext E23
      replace V_d := V_d.ext E23
      have g_b23 : n0 ≤ b23 := Nat.le_trans Zr (Nat.le_of_eq g23.symm)
      have Z23 : n0 ≤ h23.size := Nat.le_trans Zr E23.1
      have V_b23 := Arv.new A23 (nneg b10)
      refine go (B := T23.setTop (mkF m 29 #[.val (.ref a1), .val (.int p2), .val (.int p3), .val (.int p4)] [(.ref b23), (.ref a1)])) (fun _ k => st23 _ k) ?_
      obtain ⟨T24, h24, X24, e24, W24, st24⟩ := putF X23 hx hZ hown (host := "") (Or.inl (hw _ (List.mem_of_getElem? (i := 10) rfl))) Via.refl e23 F_text E_r (Or.inl (hw _ (List.mem_of_getElem? (i := 11) rfl))) (hw _ (List.mem_of_getElem? (i := 1) rfl)) (ty := (.array .char)) (by decide) rfl rfl (g := (mkF m 29 #[.val (.ref a1), .val (.int p2), .val (.int p3), .val (.int p4)] [(.ref b23), (.ref a1)])) rfl rfl (hb hby d4_29)
      replace E_r := E_r.wr W24
      replace F_text := F_text.same W24
      replace F_ends := F_ends.other W24 (Or.inr (slot_ne (Or.inl (hw _ (List.mem_of_getElem? (i := 14) rfl))) (Or.inl (hw _ (List.mem_of_getElem? (i := 11) rfl))) (by decide) (t := (.array .int)) (t' := (.array .char)) (by decide) (by decide)))
      replace F_digits := F_digits.other W24 (Or.inr (slot_ne (Or.inl (hw _ (List.mem_of_getElem? (i := 16) rfl))) (Or.inl (hw _ (List.mem_of_getElem? (i := 11) rfl))) (by decide) (t := (.array .char)) (t' := (.array .char)) (by decide) (by decide)))
      replace F_size := F_size.other W24 (Or.inr (slot_ne (Or.inl (hw _ (List.mem_of_getElem? (i := 23) rfl))) (Or.inl (hw _ (List.mem_of_getElem? (i := 11) rfl))) (by decide) (t := .int) (t' := (.array .char)) (by decide) (by decide)))
      replace V_t := V_t.other W24 ne_t_r
      replace V_e := V_e.other W24 ne_e_r
      replace V_d := V_d.other W24 ne_d_r
      replace V_b23 := V_b23.other W24 (Ne.symm ne_a1_b23)
      have N24 := Fr.snoc X24 N0 g_a1
      have Z24 : n0 ≤ h24.size := Nat.le_trans Z23 (Keep.of_wr W24).1
      refine go (B := T24.setTop (mkF m 32 #[.val (.ref a1), .val (.int p2), .val (.int p3), .val (.int p4)] [])) (fun _ k => st24 _ k) ?_
      refine go (B := T24.setTop (mkF m 33 #[.val (.ref a1), .val (.int p2), .val (.int p3), .val (.int p4)] [(.ref a1)])) (fun _ k => XS.aloadN X24.here hx rfl (hb hby d4_32) rfl rfl k) ?_
      obtain ⟨T25, X25, e25, st25⟩ := getF X24 hx hZ hown (host := "") (Or.inl (hw _ (List.mem_of_getElem? (i := 15) rfl))) Via.refl e24 F_digits (g := (mkF m 33 #[.val (.ref a1), .val (.int p2), .val (.int p3), .val (.int p4)] [(.ref a1)])) rfl rfl (hb hby d4_33)
      refine go (B := T25.setTop (mkF m 36 #[.val (.ref a1), .val (.int p2), .val (.int p3), .val (.int p4)] [(.ref d)])) (fun _ k => st25 _ k) ?_
      have Vc26 := V_d
      obtain ⟨cl26, Ar26, -, S26, N26_, -, -⟩ := Vc26
      refine go (B := T25.setTop (mkF m 37 #[.val (.ref a1), .val (.int p2), .val (.int p3), .val (.int p4)] [(.int nd)])) (fun _ k => X25.arraylength hx (by rw [e25]; exact Ar26.1) (State.isArrayOf_alike hZ.alike Ar26.2.1) (g := (mkF m 36 #[.val (.ref a1), .val (.int p2), .val (.int p3), .val (.int p4)] [(.ref d)])) rfl rfl (hb hby d4_36) _ (by rw [len_of S26 N26_]; exact k)) ?_
      refine go (B := T25.setTop (mkF m 38 #[.val (.ref a1), .val (.int p2), .val (.int p3), .val (.int p4)] [(.int p4), (.int nd)])) (fun _ k => XS.iloadN X25.here hx rfl (hb hby d4_37) rfl k) ?_
      by_cases hc38 : nd < p4
      · refine go (B := T25.setTop (mkF m 41 #[.val (.ref a1), .val (.int p2), .val (.int p3), .val (.int p4)] [])) (fun _ k => XS.icmpNo X25.here hx rfl (hb hby d4_38) rfl (tlt hc38).2.1 k) ?_
        refine go (B := T25.setTop (mkF m 42 #[.val (.ref a1), .val (.int p2), .val (.int p3), .val (.int p4)] [(.ref a1)])) (fun _ k => XS.aloadN X25.here hx rfl (hb hby d4_41) rfl rfl k) ?_
        refine go (B := T25.setTop (mkF m 43 #[.val (.ref a1), .val (.int p2), .val (.int p3), .val (.int p4)] [(.int p4), (.ref a1)])) (fun _ k => XS.iloadN X25.here hx rfl (hb hby d4_42) rfl k) ?_
        obtain ⟨T27, h27, k27, X27, e27, E27, A27, st27⟩ := newP X25 hx hZ (hw _ (List.mem_of_getElem? (i := 9) rfl)) e25 (g := (mkF m 43 #[.val (.ref a1), .val (.int p2), .val (.int p3), .val (.int p4)] [(.int p4), (.ref a1)])) rfl (hb hby d4_43) rfl (nneg b20) (cap := 15) (ncl b21) (by decide) (by decide) (by decide)
        obtain ⟨b27, g27⟩ : ∃ z, z = Array.size (h24) := ⟨_, rfl⟩
        rw [← g27] at A27 st27
        have ne_a1_b27 : a1 ≠ b27 := Nat.ne_of_lt (Nat.lt_of_lt_of_le E_r.lt (Nat.le_of_eq g27.symm))
        have ne_t_b27 : t ≠ b27 := Nat.ne_of_lt (Nat.lt_of_lt_of_le V_t.lt (Nat.le_of_eq g27.symm))
        have ne_e'_b27 : e' ≠ b27 := Nat.ne_of_lt (Nat.lt_of_lt_of_le V_e.lt (Nat.le_of_eq g27.symm))
        have ne_d_b27 : d ≠ b27 := Nat.ne_of_lt (Nat.lt_of_lt_of_le V_d.lt (Nat.le_of_eq g27.symm))
        have ne_b23_b27 : b23 ≠ b27 := Nat.ne_of_lt (Nat.lt_of_lt_of_le V_b23.lt (Nat.le_of_eq g27.symm))
        replace E_r := E_r.ext E27
        replace F_text := F_text.ext E27
        replace F_ends := F_ends.ext E27
        replace F_digits := F_digits.ext E27
        replace F_size := F_size.ext E27
        replace V_t := V_t.ext E27
        replace V_e := V_e.ext E27
        replace V_d := V_d.ext E27
        replace V_b23 := V_b23.ext E27
        have g_b27 : n0 ≤ b27 := Nat.le_trans Z24 (Nat.le_of_eq g27.symm)
        have Z27 : n0 ≤ h27.size := Nat.le_trans Z24 E27.1
        have V_b27 := Arv.new A27 (nneg b20)
        refine go (B := T27.setTop (mkF m 45 #[.val (.ref a1), .val (.int p2), .val (.int p3), .val (.int p4)] [(.ref b27), (.ref a1)])) (fun _ k => st27 _ k) ?_
        obtain ⟨T28, h28, X28, e28, W28, st28⟩ := putF X27 hx hZ hown (host := "") (Or.inl (hw _ (List.mem_of_getElem? (i := 15) rfl))) Via.refl e27 F_digits E_r (Or.inl (hw _ (List.mem_of_getElem? (i := 16) rfl))) (hw _ (List.mem_of_getElem? (i := 1) rfl)) (ty := (.array .char)) (by decide) rfl rfl (g := (mkF m 45 #[.val (.ref a1), .val (.int p2), .val (.int p3), .val (.int p4)] [(.ref b27), (.ref a1)])) rfl rfl (hb hby d4_45)
        replace E_r := E_r.wr W28
        replace F_text := F_text.other W28 (Or.inr (slot_ne (Or.inl (hw _ (List.mem_of_getElem? (i := 11) rfl))) (Or.inl (hw _ (List.mem_of_getElem? (i := 16) rfl))) (by decide) (t := (.array .char)) (t' := (.array .char)) (by decide) (by decide)))
        replace F_ends := F_ends.other W28 (Or.inr (slot_ne (Or.inl (hw _ (List.mem_of_getElem? (i := 14) rfl))) (Or.inl (hw _ (List.mem_of_getElem? (i := 16) rfl))) (by decide) (t := (.array .int)) (t' := (.array .char)) (by decide) (by decide)))
        replace F_digits := F_digits.same W28
        replace F_size := F_size.other W28 (Or.inr (slot_ne (Or.inl (hw _ (List.mem_of_getElem? (i := 23) rfl))) (Or.inl (hw _ (List.mem_of_getElem? (i := 16) rfl))) (by decide) (t := .int) (t' := (.array .char)) (by decide) (by decide)))
        replace V_t := V_t.other W28 ne_t_r
        replace V_e := V_e.other W28 ne_e_r
        replace V_d := V_d.other W28 ne_d_r
        replace V_b23 := V_b23.other W28 (Ne.symm ne_a1_b23)
        replace V_b27 := V_b27.other W28 (Ne.symm ne_a1_b27)
        have N28 := Fr.snoc X28 N24 g_a1
        have Z28 : n0 ≤ h28.size := Nat.le_trans Z27 (Keep.of_wr W28).1
        refine go (B := T28.setTop (mkF m 48 #[.val (.ref a1), .val (.int p2), .val (.int p3), .val (.int p4)] [])) (fun _ k => st28 _ k) ?_
        refine go (B := T28.setTop (mkF m 49 #[.val (.ref a1), .val (.int p2), .val (.int p3), .val (.int p4)] [(.ref a1)])) (fun _ k => XS.aloadN X28.here hx rfl (hb hby d4_48) rfl rfl k) ?_
        refine go (B := T28.setTop (mkF m 50 #[.val (.ref a1), .val (.int p2), .val (.int p3), .val (.int p4)] [(.int (0 : Int32)), (.ref a1)])) (fun _ k => XS.iconst X28.here hx rfl (hb hby d4_49) k) ?_
        obtain ⟨T29, h29, X29, e29, W29, st29⟩ := putF X28 hx hZ hown (host := "") (Or.inl (hw _ (List.mem_of_getElem? (i := 22) rfl))) Via.refl e28 F_size E_r (Or.inl (hw _ (List.mem_of_getElem? (i := 23) rfl))) (hw _ (List.mem_of_getElem? (i := 1) rfl)) (ty := .int) (by decide) rfl rfl (g := (mkF m 50 #[.val (.ref a1), .val (.int p2), .val (.int p3), .val (.int p4)] [(.int (0 : Int32)), (.ref a1)])) rfl rfl (hb hby d4_50)
        replace E_r := E_r.wr W29
        replace F_text := F_text.other W29 (Or.inr (slot_ne (Or.inl (hw _ (List.mem_of_getElem? (i := 11) rfl))) (Or.inl (hw _ (List.mem_of_getElem? (i := 23) rfl))) (by decide) (t := (.array .char)) (t' := .int) (by decide) (by decide)))
        replace F_ends := F_ends.other W29 (Or.inr (slot_ne (Or.inl (hw _ (List.mem_of_getElem? (i := 14) rfl))) (Or.inl (hw _ (List.mem_of_getElem? (i := 23) rfl))) (by decide) (t := (.array .int)) (t' := .int) (by decide) (by decide)))
        replace F_digits := F_digits.other W29 (Or.inr (slot_ne (Or.inl (hw _ (List.mem_of_getElem? (i := 16) rfl))) (Or.inl (hw _ (List.mem_of_getElem? (i := 23) rfl))) (by decide) (t := (.array .char)) (t' := .int) (by decide) (by decide)))
        replace F_size := F_size.same W29
        replace V_t := V_t.other W29 ne_t_r
        replace V_e := V_e.other W29 ne_e_r
        replace V_d := V_d.other W29 ne_d_r
        replace V_b23 := V_b23.other W29 (Ne.symm ne_a1_b23)
        replace V_b27 := V_b27.other W29 (Ne.symm ne_a1_b27)
        have N29 := Fr.snoc X29 N28 g_a1
        have Z29 : n0 ≤ h29.size := Nat.le_trans Z28 (Keep.of_wr W29).1
        refine go (B := T29.setTop (mkF m 53 #[.val (.ref a1), .val (.int p2), .val (.int p3), .val (.int p4)] [])) (fun _ k => st29 _ k) ?_
        refine goRetV X29 hx Bd.returns hlk (hb hby d4_53) ?_ (by decide) (by decide)
        rw [e29]
        have m0 : mx ne p2 = ne := if_neg hc6
        have m1 : mx nt p3 = p3 := if_pos hc22
        have m2 : mx nd p4 = p4 := if_pos hc38
        unfold Q4
        rw [m0, m1, m2]
        exact ⟨rfl, N29, _, _, _, 0, ⟨E_r, F_text, F_ends, F_digits, F_size, ⟨_, _, V_b23⟩, ⟨_, _, V_e, fun q => absurd rfl q⟩, ⟨_, _, V_b27⟩, g_a1, g_e', (Ne.symm ne_a1_b23), ne_e_r, (Ne.symm ne_a1_b27), (Ne.symm ne_e'_b23), (Ne.symm ne_e'_b27), Z29⟩, fun q => absurd hc22 q, fun q => absurd hc38 q, ⟨_, _, V_t⟩, ⟨_, _, V_d⟩⟩
      · refine go (B := T25.setTop (mkF m 48 #[.val (.ref a1), .val (.int p2), .val (.int p3), .val (.int p4)] [])) (fun _ k => XS.icmpYes X25.here hx rfl (pc0 := 38) (pc' := 48) rfl (hb hby d4_38) rfl (flt hc38).2.1 (by decide) (by decide) k) ?_
        refine go (B := T25.setTop (mkF m 49 #[.val (.ref a1), .val (.int p2), .val (.int p3), .val (.int p4)] [(.ref a1)])) (fun _ k => XS.aloadN X25.here hx rfl (hb hby d4_48) rfl rfl k) ?_
        refine go (B := T25.setTop (mkF m 50 #[.val (.ref a1), .val (.int p2), .val (.int p3), .val (.int p4)] [(.int (0 : Int32)), (.ref a1)])) (fun _ k => XS.iconst X25.here hx rfl (hb hby d4_49) k) ?_
        obtain ⟨T30, h30, X30, e30, W30, st30⟩ := putF X25 hx hZ hown (host := "") (Or.inl (hw _ (List.mem_of_getElem? (i := 22) rfl))) Via.refl e25 F_size E_r (Or.inl (hw _ (List.mem_of_getElem? (i := 23) rfl))) (hw _ (List.mem_of_getElem? (i := 1) rfl)) (ty := .int) (by decide) rfl rfl (g := (mkF m 50 #[.val (.ref a1), .val (.int p2), .val (.int p3), .val (.int p4)] [(.int (0 : Int32)), (.ref a1)])) rfl rfl (hb hby d4_50)
        replace E_r := E_r.wr W30
        replace F_text := F_text.other W30 (Or.inr (slot_ne (Or.inl (hw _ (List.mem_of_getElem? (i := 11) rfl))) (Or.inl (hw _ (List.mem_of_getElem? (i := 23) rfl))) (by decide) (t := (.array .char)) (t' := .int) (by decide) (by decide)))
        replace F_ends := F_ends.other W30 (Or.inr (slot_ne (Or.inl (hw _ (List.mem_of_getElem? (i := 14) rfl))) (Or.inl (hw _ (List.mem_of_getElem? (i := 23) rfl))) (by decide) (t := (.array .int)) (t' := .int) (by decide) (by decide)))
        replace F_digits := F_digits.other W30 (Or.inr (slot_ne (Or.inl (hw _ (List.mem_of_getElem? (i := 16) rfl))) (Or.inl (hw _ (List.mem_of_getElem? (i := 23) rfl))) (by decide) (t := (.array .char)) (t' := .int) (by decide) (by decide)))
        replace F_size := F_size.same W30
        replace V_t := V_t.other W30 ne_t_r
        replace V_e := V_e.other W30 ne_e_r
        replace V_d := V_d.other W30 ne_d_r
        replace V_b23 := V_b23.other W30 (Ne.symm ne_a1_b23)
        have N30 := Fr.snoc X30 N24 g_a1
        have Z30 : n0 ≤ h30.size := Nat.le_trans Z24 (Keep.of_wr W30).1
        refine go (B := T30.setTop (mkF m 53 #[.val (.ref a1), .val (.int p2), .val (.int p3), .val (.int p4)] [])) (fun _ k => st30 _ k) ?_
        refine goRetV X30 hx Bd.returns hlk (hb hby d4_53) ?_ (by decide) (by decide)
        rw [e30]
        have m0 : mx ne p2 = ne := if_neg hc6
        have m1 : mx nt p3 = p3 := if_pos hc22
        have m2 : mx nd p4 = nd := if_neg hc38
        unfold Q4
        rw [m0, m1, m2]
        exact ⟨rfl, N30, _, _, _, 0, ⟨E_r, F_text, F_ends, F_digits, F_size, ⟨_, _, V_b23⟩, ⟨_, _, V_e, fun q => absurd rfl q⟩, ⟨_, _, V_d⟩, g_a1, g_e', (Ne.symm ne_a1_b23), ne_e_r, ne_d_r, (Ne.symm ne_e'_b23), ne_d_e, Z30⟩, fun q => absurd hc22 q, fun _ => rfl, ⟨_, _, V_t⟩, ⟨_, _, V_d⟩⟩
    · refine go (B := T21.setTop (mkF m 32 #[.val (.ref a1), .val (.int p2), .val (.int p3), .val (.int p4)] [])) (fun _ k => XS.icmpYes X21.here hx rfl (pc0 := 22) (pc' := 32) rfl (hb hby d4_22) rfl (flt hc22).2.1 (by decide) (by decide) k) ?_
      refine go (B := T21.setTop (mkF m 33 #[.val (.ref a1), .val (.int p2), .val (.int p3), .val (.int p4)] [(.ref a1)])) (fun _ k => XS.aloadN X21.here hx rfl (hb hby d4_32) rfl rfl k) ?_
      obtain ⟨T31, X31, e31, st31⟩ := getF X21 hx hZ hown (host := "") (Or.inl (hw _ (List.mem_of_getElem? (i := 15) rfl))) Via.refl e21 F_digits (g := (mkF m 33 #[.val (.ref a1), .val (.int p2), .val (.int p3), .val (.int p4)] [(.ref a1)])) rfl rfl (hb hby d4_33)
      refine go (B := T31.setTop (mkF m 36 #[.val (.ref a1), .val (.int p2), .val (.int p3), .val (.int p4)] [(.ref d)])) (fun _ k => st31 _ k) ?_
      have Vc32 := V_d
      obtain ⟨cl32, Ar32, -, S32, N32_, -, -⟩ := Vc32
      refine go (B := T31.setTop (mkF m 37 #[.val (.ref a1), .val (.int p2), .val (.int p3), .val (.int p4)] [(.int nd)])) (fun _ k => X31.arraylength hx (by rw [e31]; exact Ar32.1) (State.isArrayOf_alike hZ.alike Ar32.2.1) (g := (mkF m 36 #[.val (.ref a1), .val (.int p2), .val (.int p3), .val (.int p4)] [(.ref d)])) rfl rfl (hb hby d4_36) _ (by rw [len_of S32 N32_]; exact k)) ?_
      refine go (B := T31.setTop (mkF m 38 #[.val (.ref a1), .val (.int p2), .val (.int p3), .val (.int p4)] [(.int p4), (.int nd)])) (fun _ k => XS.iloadN X31.here hx rfl (hb hby d4_37) rfl k) ?_
      by_cases hc38 : nd < p4
      · refine go (B := T31.setTop (mkF m 41 #[.val (.ref a1), .val (.int p2), .val (.int p3), .val (.int p4)] [])) (fun _ k => XS.icmpNo X31.here hx rfl (hb hby d4_38) rfl (tlt hc38).2.1 k) ?_
        refine go (B := T31.setTop (mkF m 42 #[.val (.ref a1), .val (.int p2), .val (.int p3), .val (.int p4)] [(.ref a1)])) (fun _ k => XS.aloadN X31.here hx rfl (hb hby d4_41) rfl rfl k) ?_
        refine go (B := T31.setTop (mkF m 43 #[.val (.ref a1), .val (.int p2), .val (.int p3), .val (.int p4)] [(.int p4), (.ref a1)])) (fun _ k => XS.iloadN X31.here hx rfl (hb hby d4_42) rfl k) ?_
        obtain ⟨T33, h33, k33, X33, e33, E33, A33, st33⟩ := newP X31 hx hZ (hw _ (List.mem_of_getElem? (i := 9) rfl)) e31 (g := (mkF m 43 #[.val (.ref a1), .val (.int p2), .val (.int p3), .val (.int p4)] [(.int p4), (.ref a1)])) rfl (hb hby d4_43) rfl (nneg b20) (cap := 15) (ncl b21) (by decide) (by decide) (by decide)
        obtain ⟨b33, g33⟩ : ∃ z, z = Array.size (h0) := ⟨_, rfl⟩
        rw [← g33] at A33 st33
        have ne_a1_b33 : a1 ≠ b33 := Nat.ne_of_lt (Nat.lt_of_lt_of_le E_r.lt (Nat.le_of_eq g33.symm))
        have ne_t_b33 : t ≠ b33 := Nat.ne_of_lt (Nat.lt_of_lt_of_le V_t.lt (Nat.le_of_eq g33.symm))
        have ne_e'_b33 : e' ≠ b33 := Nat.ne_of_lt (Nat.lt_of_lt_of_le V_e.lt (Nat.le_of_eq g33.symm))
        have ne_d_b33 : d ≠ b33 := Nat.ne_of_lt (Nat.lt_of_lt_of_le V_d.lt (Nat.le_of_eq g33.symm))
        replace E_r := E_r.ext E33
        replace F_text := F_text.ext E33
        replace F_ends := F_ends.ext E33
        replace F_digits := F_digits.ext E33
        replace F_size := F_size.ext E33
        replace V_t := V_t.ext E33
        replace V_e := V_e.ext E33
        replace V_d := V_d.ext E33
        have g_b33 : n0 ≤ b33 := Nat.le_trans Zr (Nat.le_of_eq g33.symm)
        have Z33 : n0 ≤ h33.size := Nat.le_trans Zr E33.1
        have V_b33 := Arv.new A33 (nneg b20)
        refine go (B := T33.setTop (mkF m 45 #[.val (.ref a1), .val (.int p2), .val (.int p3), .val (.int p4)] [(.ref b33), (.ref a1)])) (fun _ k => st33 _ k) ?_
        obtain ⟨T34, h34, X34, e34, W34, st34⟩ := putF X33 hx hZ hown (host := "") (Or.inl (hw _ (List.mem_of_getElem? (i := 15) rfl))) Via.refl e33 F_digits E_r (Or.inl (hw _ (List.mem_of_getElem? (i := 16) rfl))) (hw _ (List.mem_of_getElem? (i := 1) rfl)) (ty := (.array .char)) (by decide) rfl rfl (g := (mkF m 45 #[.val (.ref a1), .val (.int p2), .val (.int p3), .val (.int p4)] [(.ref b33), (.ref a1)])) rfl rfl (hb hby d4_45)
        replace E_r := E_r.wr W34
        replace F_text := F_text.other W34 (Or.inr (slot_ne (Or.inl (hw _ (List.mem_of_getElem? (i := 11) rfl))) (Or.inl (hw _ (List.mem_of_getElem? (i := 16) rfl))) (by decide) (t := (.array .char)) (t' := (.array .char)) (by decide) (by decide)))
        replace F_ends := F_ends.other W34 (Or.inr (slot_ne (Or.inl (hw _ (List.mem_of_getElem? (i := 14) rfl))) (Or.inl (hw _ (List.mem_of_getElem? (i := 16) rfl))) (by decide) (t := (.array .int)) (t' := (.array .char)) (by decide) (by decide)))
        replace F_digits := F_digits.same W34
        replace F_size := F_size.other W34 (Or.inr (slot_ne (Or.inl (hw _ (List.mem_of_getElem? (i := 23) rfl))) (Or.inl (hw _ (List.mem_of_getElem? (i := 16) rfl))) (by decide) (t := .int) (t' := (.array .char)) (by decide) (by decide)))
        replace V_t := V_t.other W34 ne_t_r
        replace V_e := V_e.other W34 ne_e_r
        replace V_d := V_d.other W34 ne_d_r
        replace V_b33 := V_b33.other W34 (Ne.symm ne_a1_b33)
        have N34 := Fr.snoc X34 N0 g_a1
        have Z34 : n0 ≤ h34.size := Nat.le_trans Z33 (Keep.of_wr W34).1
        refine go (B := T34.setTop (mkF m 48 #[.val (.ref a1), .val (.int p2), .val (.int p3), .val (.int p4)] [])) (fun _ k => st34 _ k) ?_
        refine go (B := T34.setTop (mkF m 49 #[.val (.ref a1), .val (.int p2), .val (.int p3), .val (.int p4)] [(.ref a1)])) (fun _ k => XS.aloadN X34.here hx rfl (hb hby d4_48) rfl rfl k) ?_
        refine go (B := T34.setTop (mkF m 50 #[.val (.ref a1), .val (.int p2), .val (.int p3), .val (.int p4)] [(.int (0 : Int32)), (.ref a1)])) (fun _ k => XS.iconst X34.here hx rfl (hb hby d4_49) k) ?_
        obtain ⟨T35, h35, X35, e35, W35, st35⟩ := putF X34 hx hZ hown (host := "") (Or.inl (hw _ (List.mem_of_getElem? (i := 22) rfl))) Via.refl e34 F_size E_r (Or.inl (hw _ (List.mem_of_getElem? (i := 23) rfl))) (hw _ (List.mem_of_getElem? (i := 1) rfl)) (ty := .int) (by decide) rfl rfl (g := (mkF m 50 #[.val (.ref a1), .val (.int p2), .val (.int p3), .val (.int p4)] [(.int (0 : Int32)), (.ref a1)])) rfl rfl (hb hby d4_50)
        replace E_r := E_r.wr W35
        replace F_text := F_text.other W35 (Or.inr (slot_ne (Or.inl (hw _ (List.mem_of_getElem? (i := 11) rfl))) (Or.inl (hw _ (List.mem_of_getElem? (i := 23) rfl))) (by decide) (t := (.array .char)) (t' := .int) (by decide) (by decide)))
        replace F_ends := F_ends.other W35 (Or.inr (slot_ne (Or.inl (hw _ (List.mem_of_getElem? (i := 14) rfl))) (Or.inl (hw _ (List.mem_of_getElem? (i := 23) rfl))) (by decide) (t := (.array .int)) (t' := .int) (by decide) (by decide)))
        replace F_digits := F_digits.other W35 (Or.inr (slot_ne (Or.inl (hw _ (List.mem_of_getElem? (i := 16) rfl))) (Or.inl (hw _ (List.mem_of_getElem? (i := 23) rfl))) (by decide) (t := (.array .char)) (t' := .int) (by decide) (by decide)))
        replace F_size := F_size.same W35
        replace V_t := V_t.other W35 ne_t_r
        replace V_e := V_e.other W35 ne_e_r
        replace V_d := V_d.other W35 ne_d_r
        replace V_b33 := V_b33.other W35 (Ne.symm ne_a1_b33)
        have N35 := Fr.snoc X35 N34 g_a1
        have Z35 : n0 ≤ h35.size := Nat.le_trans Z34 (Keep.of_wr W35).1
        refine go (B := T35.setTop (mkF m 53 #[.val (.ref a1), .val (.int p2), .val (.int p3), .val (.int p4)] [])) (fun _ k => st35 _ k) ?_
        refine goRetV X35 hx Bd.returns hlk (hb hby d4_53) ?_ (by decide) (by decide)
        rw [e35]
        have m0 : mx ne p2 = ne := if_neg hc6
        have m1 : mx nt p3 = nt := if_neg hc22
        have m2 : mx nd p4 = p4 := if_pos hc38
        unfold Q4
        rw [m0, m1, m2]
        exact ⟨rfl, N35, _, _, _, 0, ⟨E_r, F_text, F_ends, F_digits, F_size, ⟨_, _, V_t⟩, ⟨_, _, V_e, fun q => absurd rfl q⟩, ⟨_, _, V_b33⟩, g_a1, g_e', ne_t_r, ne_e_r, (Ne.symm ne_a1_b33), ne_t_e, (Ne.symm ne_e'_b33), Z35⟩, fun _ => rfl, fun q => absurd hc38 q, ⟨_, _, V_t⟩, ⟨_, _, V_d⟩⟩
      · refine go (B := T31.setTop (mkF m 48 #[.val (.ref a1), .val (.int p2), .val (.int p3), .val (.int p4)] [])) (fun _ k => XS.icmpYes X31.here hx rfl (pc0 := 38) (pc' := 48) rfl (hb hby d4_38) rfl (flt hc38).2.1 (by decide) (by decide) k) ?_
        refine go (B := T31.setTop (mkF m 49 #[.val (.ref a1), .val (.int p2), .val (.int p3), .val (.int p4)] [(.ref a1)])) (fun _ k => XS.aloadN X31.here hx rfl (hb hby d4_48) rfl rfl k) ?_
        refine go (B := T31.setTop (mkF m 50 #[.val (.ref a1), .val (.int p2), .val (.int p3), .val (.int p4)] [(.int (0 : Int32)), (.ref a1)])) (fun _ k => XS.iconst X31.here hx rfl (hb hby d4_49) k) ?_
        obtain ⟨T36, h36, X36, e36, W36, st36⟩ := putF X31 hx hZ hown (host := "") (Or.inl (hw _ (List.mem_of_getElem? (i := 22) rfl))) Via.refl e31 F_size E_r (Or.inl (hw _ (List.mem_of_getElem? (i := 23) rfl))) (hw _ (List.mem_of_getElem? (i := 1) rfl)) (ty := .int) (by decide) rfl rfl (g := (mkF m 50 #[.val (.ref a1), .val (.int p2), .val (.int p3), .val (.int p4)] [(.int (0 : Int32)), (.ref a1)])) rfl rfl (hb hby d4_50)
        replace E_r := E_r.wr W36
        replace F_text := F_text.other W36 (Or.inr (slot_ne (Or.inl (hw _ (List.mem_of_getElem? (i := 11) rfl))) (Or.inl (hw _ (List.mem_of_getElem? (i := 23) rfl))) (by decide) (t := (.array .char)) (t' := .int) (by decide) (by decide)))
        replace F_ends := F_ends.other W36 (Or.inr (slot_ne (Or.inl (hw _ (List.mem_of_getElem? (i := 14) rfl))) (Or.inl (hw _ (List.mem_of_getElem? (i := 23) rfl))) (by decide) (t := (.array .int)) (t' := .int) (by decide) (by decide)))
        replace F_digits := F_digits.other W36 (Or.inr (slot_ne (Or.inl (hw _ (List.mem_of_getElem? (i := 16) rfl))) (Or.inl (hw _ (List.mem_of_getElem? (i := 23) rfl))) (by decide) (t := (.array .char)) (t' := .int) (by decide) (by decide)))
        replace F_size := F_size.same W36
        replace V_t := V_t.other W36 ne_t_r
        replace V_e := V_e.other W36 ne_e_r
        replace V_d := V_d.other W36 ne_d_r
        have N36 := Fr.snoc X36 N0 g_a1
        have Z36 : n0 ≤ h36.size := Nat.le_trans Zr (Keep.of_wr W36).1
        refine go (B := T36.setTop (mkF m 53 #[.val (.ref a1), .val (.int p2), .val (.int p3), .val (.int p4)] [])) (fun _ k => st36 _ k) ?_
        refine goRetV X36 hx Bd.returns hlk (hb hby d4_53) ?_ (by decide) (by decide)
        rw [e36]
        have m0 : mx ne p2 = ne := if_neg hc6
        have m1 : mx nt p3 = nt := if_neg hc22
        have m2 : mx nd p4 = nd := if_neg hc38
        unfold Q4
        rw [m0, m1, m2]
        exact ⟨rfl, N36, _, _, _, 0, ⟨E_r, F_text, F_ends, F_digits, F_size, ⟨_, _, V_t⟩, ⟨_, _, V_e, fun q => absurd rfl q⟩, ⟨_, _, V_d⟩, g_a1, g_e', ne_t_r, ne_e_r, ne_d_r, ne_t_e, ne_d_e, Z36⟩, fun _ => rfl, fun _ => rfl, ⟨_, _, V_t⟩, ⟨_, _, V_d⟩⟩
theorem k_in (x : Int32) : (x &&& (3 : Int32)).toInt = x.toInt % 2 ^ 2 := Jvm.Kit.i32_mask _ _ (k := 2) (by decide) (by decide)
theorem fNext_ne {s x : Int32} (h : ¬ s = 0) : fNext s x = x := if_neg h
theorem pn_com_example_zonecast_zonecast_RecordValuesNextPinLaw : plainName "com/example/zonecast/zonecast/RecordValuesNextPinLaw" = true := by first | (simp [plainName, overriddenIn]; done) | decide +kernel
theorem ef_rm0 (m : MethodId) (p1 : Int32) (p2 : Int32) (p3 : Int32) (p4 : Int32) (p5 : Int32) (p6 : Int32) : entryFrame m #[(.int p1), (.int p2), (.int p3), (.int p4), (.int p5), (.int p6)] maxLocals = mkF m 0 #[.val (.int p1), .val (.int p2), .val (.int p3), .val (.int p4), .val (.int p5), .val (.int p6), .unset, .unset, .unset, .unset] [] := by first | (simp [entryFrame, mkF, argsToLocals, Value.category, maxLocals]; done) | rfl
def Q0 (Z : State) (p1 : Int32) (p2 : Int32) (p3 : Int32) (p4 : Int32) (p5 : Int32) (p6 : Int32) (h0 : Heap) (n0 : Nat) (v : Option Value) (h : Heap) (L : List Loc) : Prop := v = some (.int 1) ∧ Fr n0 L
theorem pd___V : parseMethodDescriptor "()V" = some ⟨[], none⟩ := by decide +kernel
theorem pd___I : parseMethodDescriptor "()I" = some ⟨[], some .int⟩ := by decide +kernel
theorem pd__III_V : parseMethodDescriptor "(III)V" = some ⟨[.int, .int, .int], none⟩ := by decide +kernel
theorem pd__I_V : parseMethodDescriptor "(I)V" = some ⟨[.int], none⟩ := by decide +kernel
set_option maxRecDepth 65536 in
set_option maxHeartbeats 40000000 in
theorem rm0 (l : Launch) (Z : State) (a0 : Array Value) (hw : ∀ d ∈ tables_1, d.before a0 Z = true) (ws : List Jvm.Cond) (p1 : Int32) (p2 : Int32) (p3 : Int32) (p4 : Int32) (p5 : Int32) (p6 : Int32) (h0 : Heap) (n0 : Nat) (Z0 : n0 ≤ h0.size) :
    MetFree l x (head1 (Jvm.Cond.code x code maxLocals ret :: ws) room_1) (fun a U => a = #[(.int p1), (.int p2), (.int p3), (.int p4), (.int p5), (.int p6)] ∧ Z.Warmed39 U.vm ∧ U.heap = h0) (fun _ _ _ _ _ => True) (fun _ U o U' => ∃ v L, o = .returned v ∧ Q0 Z p1 p2 p3 p4 p5 p6 h0 n0 v U'.heap L ∧ FrameEnd U o U' L room_1.cells room_1.slots) := by
  refine MetFree.of_bodySF (plainFor_of_name pn_com_example_zonecast_zonecast_RecordValuesNextPinLaw) hisR ?_
  intro p e s m args below meth c s₁ Bd hml0 hP hK
  obtain ⟨rfl, hZ, hh⟩ := hP
  have hx := Bd.exec
  have hby := Bd.bytes
  have hml : c.maxLocals = 10 := hml0
  have hown : s.vm.findClass "com/example/zonecast/zonecast/RecordValuesNextPinLaw" = some m.cls := findClass_of_methodNamed Bd.named
  have hnm := (name_of_methodNamed Bd.named Bd.method).1
  have hlk := Bd.notSynchronized
  have X0 : Stand p l e room_1 s m #[(.int p1), (.int p2), (.int p3), (.int p4), (.int p5), (.int p6)] below meth c s₁ [] 0 0 := Stand.of_body Bd
  have e0 : s₁.heap = h0 := by rw [← hh, Bd.state]; rfl
  have N0 := Fr.nil n0
  show Go p.tables e below s room_1.cells room_1.slots (Q0 Z p1 p2 p3 p4 p5 p6 h0 n0) _
  refine go (fun t k => castTop (ef_rm0 m p1 p2 p3 p4 p5 p6) k) ?_
  obtain ⟨T1, h1, X1, e1, E1, A1, D1, -, st1⟩ := newO X0 hx hZ hown (hw _ (List.mem_of_getElem? (i := 0) rfl)) (hw _ (List.mem_of_getElem? (i := 1) rfl)) (hw _ (List.mem_of_getElem? (i := 2) rfl)) e0 (g := (mkF m 0 #[.val (.int p1), .val (.int p2), .val (.int p3), .val (.int p4), .val (.int p5), .val (.int p6), .unset, .unset, .unset, .unset] [])) rfl (hb hby at_0) (by decide) (by decide)
  obtain ⟨b1, g1⟩ : ∃ z, z = Array.size (h0) := ⟨_, rfl⟩
  rw [← g1] at A1 D1 st1
  have g_b1 : n0 ≤ b1 := Nat.le_trans Z0 (Nat.le_of_eq g1.symm)
  have Z1 : n0 ≤ h1.size := Nat.le_trans Z0 E1.1
  have F_text_b1 : Fld Z h1 b1 "com/example/zonecast/zonecast/RecordValues" "text" "[C" .null := D1 (Or.inl (hw _ (List.mem_of_getElem? (i := 11) rfl))) (ty := (.array .char)) (by decide)
  have F_ends_b1 : Fld Z h1 b1 "com/example/zonecast/zonecast/RecordValues" "ends" "[I" .null := D1 (Or.inl (hw _ (List.mem_of_getElem? (i := 14) rfl))) (ty := (.array .int)) (by decide)
  have F_digits_b1 : Fld Z h1 b1 "com/example/zonecast/zonecast/RecordValues" "digits" "[C" .null := D1 (Or.inl (hw _ (List.mem_of_getElem? (i := 16) rfl))) (ty := (.array .char)) (by decide)
  have F_size_b1 : Fld Z h1 b1 "com/example/zonecast/zonecast/RecordValues" "size" "I" (.int (0 : Int32)) := D1 (Or.inl (hw _ (List.mem_of_getElem? (i := 23) rfl))) (ty := .int) (by decide)
  refine go (B := T1.setTop (mkF m 3 #[.val (.int p1), .val (.int p2), .val (.int p3), .val (.int p4), .val (.int p5), .val (.int p6), .unset, .unset, .unset, .unset] [(.ref b1)])) (fun _ k => st1 _ k) ?_
  refine go (B := T1.setTop (mkF m 4 #[.val (.int p1), .val (.int p2), .val (.int p3), .val (.int p4), .val (.int p5), .val (.int p6), .unset, .unset, .unset, .unset] [(.ref b1), (.ref b1)])) (fun _ k => XS.dup X1.here hx rfl (hb hby at_3) rfl rfl k) ?_
  obtain ⟨_, _, ⟨T2, L2, k2, n2⟩, -, X2, ⟨Lc2, hQ2, l2, y2, z2⟩, st2⟩ := X1.specialBack hx (y := (⟨"com/example/zonecast/zonecast/RecordValues", "<init>", "()V"⟩ : MethodName)) rfl hown (mvT hZ (hw _ (List.mem_of_getElem? (i := 3) rfl))) (mvT hZ (hw _ (List.mem_of_getElem? (i := 4) rfl))) (mvT hZ (hw _ (List.mem_of_getElem? (i := 5) rfl))) (by decide) (backOf (W := 1) (rm1 l Z a0 hw [] b1 h1 n0 Z1 A1 F_text_b1 F_ends_b1 F_digits_b1 F_size_b1 g_b1) hZ (hw _ (List.mem_of_getElem? (i := 5) rfl)) (hw _ (List.mem_of_getElem? (i := 2) rfl)) (by decide) (by decide)) (g := (mkF m 4 #[.val (.int p1), .val (.int p2), .val (.int p3), .val (.int p4), .val (.int p5), .val (.int p6), .unset, .unset, .unset, .unset] [(.ref b1), (.ref b1)])) rfl (by rw [hml]; rfl) (Steps.refl _) (a := b1) (argsL := []) (rest := [(.ref b1)]) (lenOf pd___V rfl) rfl (by show 2 * 0 + _ ≤ _; exact Nat.le_of_eq rfl) (hb hby at_4) (fun _ _ => ⟨rfl, e1, (by decide : 1 + 3 ≤ _), (by decide : 4 + 0 ≤ _)⟩)
  dsimp only [Pt.U, Pt.locs, Pt.cells, Pt.slots] at X2 l2 y2 z2 st2 hQ2
  subst l2 y2 z2
  obtain ⟨rfl, N2q, t2, en2, dg2, x2, R2⟩ := hQ2
  have N2 := Fr.app N0 N2q
  have Zr2 := R2.2.2.2.2.2.2.2.2.2.2.2.2.2.2.2
  refine go (B := T2.setTop (mkF m 7 #[.val (.int p1), .val (.int p2), .val (.int p3), .val (.int p4), .val (.int p5), .val (.int p6), .unset, .unset, .unset, .unset] [(.ref b1)])) (fun _ k => st2.trans k) ?_
  refine go (B := T2.setTop (mkF m 9 #[.val (.int p1), .val (.int p2), .val (.int p3), .val (.int p4), .val (.int p5), .val (.int p6), .val (.ref b1), .unset, .unset, .unset] [])) (fun _ k => XS.astore X2.here hx rfl (hb hby at_7) rfl rfl (l' := #[.val (.int p1), .val (.int p2), .val (.int p3), .val (.int p4), .val (.int p5), .val (.int p6), .val (.ref b1), .unset, .unset, .unset]) rfl k) ?_
  refine go (B := T2.setTop (mkF m 11 #[.val (.int p1), .val (.int p2), .val (.int p3), .val (.int p4), .val (.int p5), .val (.int p6), .val (.ref b1), .unset, .unset, .unset] [(.ref b1)])) (fun _ k => XS.aload X2.here hx rfl (hb hby at_9) rfl rfl k) ?_
  obtain ⟨cq3, kq3, q3a, q3b, q3c⟩ := isOf hZ rfl R2.1
  obtain ⟨_, _, ⟨T3, L3, k3, n3⟩, -, X3, ⟨Lc3, hQ3, l3, y3, z3⟩, st3⟩ := X2.virtualBack hx (y := (⟨"com/example/zonecast/zonecast/RecordValues", "next", "()I"⟩ : MethodName)) (z := (⟨"com/example/zonecast/zonecast/RecordValues", "next", "()I"⟩ : MethodName)) hown (mvT hZ (hw _ (List.mem_of_getElem? (i := 17) rfl))) (mvT hZ (hw _ (List.mem_of_getElem? (i := 18) rfl))) (notFace_of_selects (args := #[]) (mvT hZ (hw _ (List.mem_of_getElem? (i := 20) rfl)))) (mvT hZ (hw _ (List.mem_of_getElem? (i := 20) rfl))) (mvT hZ (hw _ (List.mem_of_getElem? (i := 19) rfl))) (by decide) (backOf (W := 0) (rm3 l Z a0 hw [] b1 t2 en2 dg2 (0 : Int32) (0 : Int32) (0 : Int32) (0 : Int32) x2 T2.heap n0 Zr2 R2 (by decide +kernel) (by decide +kernel)) hZ (hw _ (List.mem_of_getElem? (i := 21) rfl)) (hw _ (List.mem_of_getElem? (i := 2) rfl)) (by decide) (by decide)) q3a q3c (g := (mkF m 11 #[.val (.int p1), .val (.int p2), .val (.int p3), .val (.int p4), .val (.int p5), .val (.int p6), .val (.ref b1), .unset, .unset, .unset] [(.ref b1)])) rfl (by rw [hml]; rfl) (Steps.refl _) (argsL := []) (rest := []) (lenOf pd___I rfl) rfl (by show 2 * 0 + _ ≤ _; exact Nat.le_of_eq rfl) (hb hby at_11) (fun _ _ => ⟨rfl, rfl, (by decide : 4 + 0 ≤ _), (by decide : 4 + 0 ≤ _)⟩)
  dsimp only [Pt.U, Pt.locs, Pt.cells, Pt.slots] at X3 l3 y3 z3 st3 hQ3
  subst l3 y3 z3
  obtain ⟨rfl, N3q, e3⟩ := hQ3
  have N3 := Fr.app N2 N3q
  refine go (B := T3.setTop (mkF m 14 #[.val (.int p1), .val (.int p2), .val (.int p3), .val (.int p4), .val (.int p5), .val (.int p6), .val (.ref b1), .unset, .unset, .unset] [(.int (fNext (0 : Int32) x2))])) (fun _ k => st3.trans k) ?_
  have hc14 : (fNext (0 : Int32) x2) = (0 : Int32) := rfl
  refine go (B := T3.setTop (mkF m 17 #[.val (.int p1), .val (.int p2), .val (.int p3), .val (.int p4), .val (.int p5), .val (.int p6), .val (.ref b1), .unset, .unset, .unset] [])) (fun _ k => XS.ifNo X3.here hx rfl (hb hby at_14) rfl ((if0 _ _).trans (teq hc14).2) k) ?_
  refine go (B := T3.setTop (mkF m 18 #[.val (.int p1), .val (.int p2), .val (.int p3), .val (.int p4), .val (.int p5), .val (.int p6), .val (.ref b1), .unset, .unset, .unset] [(.int (1 : Int32))])) (fun _ k => XS.iconst X3.here hx rfl (hb hby at_17) k) ?_
  refine go (B := T3.setTop (mkF m 22 #[.val (.int p1), .val (.int p2), .val (.int p3), .val (.int p4), .val (.int p5), .val (.int p6), .val (.ref b1), .unset, .unset, .unset] [(.int (1 : Int32))])) (fun _ k => XS.goto X3.here hx rfl (pc0 := 18) (pc' := 22) rfl (hb hby at_18) (by decide) (by decide) k) ?_
  refine go (B := T3.setTop (mkF m 24 #[.val (.int p1), .val (.int p2), .val (.int p3), .val (.int p4), .val (.int p5), .val (.int p6), .val (.ref b1), .val (.int (1 : Int32)), .unset, .unset] [])) (fun _ k => XS.istore X3.here hx rfl (hb hby at_22) rfl (l' := #[.val (.int p1), .val (.int p2), .val (.int p3), .val (.int p4), .val (.int p5), .val (.int p6), .val (.ref b1), .val (.int (1 : Int32)), .unset, .unset]) rfl k) ?_
  refine go (B := T3.setTop (mkF m 26 #[.val (.int p1), .val (.int p2), .val (.int p3), .val (.int p4), .val (.int p5), .val (.int p6), .val (.ref b1), .val (.int (1 : Int32)), .unset, .unset] [(.ref b1)])) (fun _ k => XS.aload X3.here hx rfl (hb hby at_24) rfl rfl k) ?_
  refine go (B := T3.setTop (mkF m 27 #[.val (.int p1), .val (.int p2), .val (.int p3), .val (.int p4), .val (.int p5), .val (.int p6), .val (.ref b1), .val (.int (1 : Int32)), .unset, .unset] [(.int (3 : Int32)), (.ref b1)])) (fun _ k => XS.iconst X3.here hx rfl (hb hby at_26) k) ?_
  refine go (B := T3.setTop (mkF m 28 #[.val (.int p1), .val (.int p2), .val (.int p3), .val (.int p4), .val (.int p5), .val (.int p6), .val (.ref b1), .val (.int (1 : Int32)), .unset, .unset] [(.int (0 : Int32)), (.int (3 : Int32)), (.ref b1)])) (fun _ k => XS.iconst X3.here hx rfl (hb hby at_27) k) ?_
  refine go (B := T3.setTop (mkF m 29 #[.val (.int p1), .val (.int p2), .val (.int p3), .val (.int p4), .val (.int p5), .val (.int p6), .val (.ref b1), .val (.int (1 : Int32)), .unset, .unset] [(.int (0 : Int32)), (.int (0 : Int32)), (.int (3 : Int32)), (.ref b1)])) (fun _ k => XS.iconst X3.here hx rfl (hb hby at_28) k) ?_
  obtain ⟨cq4, kq4, q4a, q4b, q4c⟩ := isOf hZ e3 R2.1
  obtain ⟨_, _, ⟨T4, L4, k4, n4⟩, -, X4, ⟨Lc4, hQ4, l4, y4, z4⟩, st4⟩ := X3.virtualBack hx (y := (⟨"com/example/zonecast/zonecast/RecordValues", "clear", "(III)V"⟩ : MethodName)) (z := (⟨"com/example/zonecast/zonecast/RecordValues", "clear", "(III)V"⟩ : MethodName)) hown (mvT hZ (hw _ (List.mem_of_getElem? (i := 24) rfl))) (mvT hZ (hw _ (List.mem_of_getElem? (i := 25) rfl))) (notFace_of_selects (args := #[]) (mvT hZ (hw _ (List.mem_of_getElem? (i := 27) rfl)))) (mvT hZ (hw _ (List.mem_of_getElem? (i := 27) rfl))) (mvT hZ (hw _ (List.mem_of_getElem? (i := 26) rfl))) (by decide) (backOf (W := 0) (rm4 l Z a0 hw [] b1 (3 : Int32) (0 : Int32) (0 : Int32) t2 en2 dg2 (0 : Int32) (0 : Int32) (0 : Int32) (0 : Int32) x2 T2.heap n0 Zr2 R2 (by decide +kernel) (by decide +kernel) (by decide +kernel) (by decide +kernel) (by decide +kernel) (by decide +kernel)) hZ (hw _ (List.mem_of_getElem? (i := 28) rfl)) (hw _ (List.mem_of_getElem? (i := 2) rfl)) (by decide) (by decide)) q4a q4c (g := (mkF m 29 #[.val (.int p1), .val (.int p2), .val (.int p3), .val (.int p4), .val (.int p5), .val (.int p6), .val (.ref b1), .val (.int (1 : Int32)), .unset, .unset] [(.int (0 : Int32)), (.int (0 : Int32)), (.int (3 : Int32)), (.ref b1)])) rfl (by rw [hml]; rfl) (Steps.refl _) (argsL := [(.int (3 : Int32)), (.int (0 : Int32)), (.int (0 : Int32))]) (rest := []) (lenOf pd__III_V rfl) rfl (by show 2 * 0 + _ ≤ _; exact Nat.le_of_eq rfl) (hb hby at_29) (fun _ _ => ⟨rfl, e3, (by decide : 4 + 3 ≤ _), (by decide : 4 + 37 ≤ _)⟩)
  dsimp only [Pt.U, Pt.locs, Pt.cells, Pt.slots] at X4 l4 y4 z4 st4 hQ4
  subst l4 y4 z4
  obtain ⟨rfl, N4q, t4, en4, dg4, x4, R4, hT4, hD4, ⟨kt4, vt4, Vt4⟩, ⟨kd4, vd4, Vd4⟩⟩ := hQ4
  have N4 := Fr.app N3 N4q
  have Zr4 := R4.2.2.2.2.2.2.2.2.2.2.2.2.2.2.2
  refine go (B := T4.setTop (mkF m 32 #[.val (.int p1), .val (.int p2), .val (.int p3), .val (.int p4), .val (.int p5), .val (.int p6), .val (.ref b1), .val (.int (1 : Int32)), .unset, .unset] [])) (fun _ k => st4.trans k) ?_
  refine go (B := T4.setTop (mkF m 34 #[.val (.int p1), .val (.int p2), .val (.int p3), .val (.int p4), .val (.int p5), .val (.int p6), .val (.ref b1), .val (.int (1 : Int32)), .unset, .unset] [(.int p5)])) (fun _ k => XS.iload X4.here hx rfl (hb hby at_32) rfl k) ?_
  refine go (B := T4.setTop (mkF m 35 #[.val (.int p1), .val (.int p2), .val (.int p3), .val (.int p4), .val (.int p5), .val (.int p6), .val (.ref b1), .val (.int (1 : Int32)), .unset, .unset] [(.int (3 : Int32)), (.int p5)])) (fun _ k => XS.iconst X4.here hx rfl (hb hby at_34) k) ?_
  refine go (B := T4.setTop (mkF m 36 #[.val (.int p1), .val (.int p2), .val (.int p3), .val (.int p4), .val (.int p5), .val (.int p6), .val (.ref b1), .val (.int (1 : Int32)), .unset, .unset] [(.int (p5 &&& (3 : Int32)))])) (fun _ k => XS.iand X4.here hx rfl (hb hby at_35) rfl k) ?_
  refine go (B := T4.setTop (mkF m 38 #[.val (.int p1), .val (.int p2), .val (.int p3), .val (.int p4), .val (.int p5), .val (.int p6), .val (.ref b1), .val (.int (1 : Int32)), .val (.int (p5 &&& (3 : Int32))), .unset] [])) (fun _ k => XS.istore X4.here hx rfl (hb hby at_36) rfl (l' := #[.val (.int p1), .val (.int p2), .val (.int p3), .val (.int p4), .val (.int p5), .val (.int p6), .val (.ref b1), .val (.int (1 : Int32)), .val (.int (p5 &&& (3 : Int32))), .unset]) rfl k) ?_
  refine go (B := T4.setTop (mkF m 40 #[.val (.int p1), .val (.int p2), .val (.int p3), .val (.int p4), .val (.int p5), .val (.int p6), .val (.ref b1), .val (.int (1 : Int32)), .val (.int (p5 &&& (3 : Int32))), .unset] [(.int (p5 &&& (3 : Int32)))])) (fun _ k => XS.iload X4.here hx rfl (hb hby at_38) rfl k) ?_
  refine go (B := T4.setTop (mkF m 41 #[.val (.int p1), .val (.int p2), .val (.int p3), .val (.int p4), .val (.int p5), .val (.int p6), .val (.ref b1), .val (.int (1 : Int32)), .val (.int (p5 &&& (3 : Int32))), .unset] [(.int (1 : Int32)), (.int (p5 &&& (3 : Int32)))])) (fun _ k => XS.iconst X4.here hx rfl (hb hby at_40) k) ?_
  by_cases hc41 : (p5 &&& (3 : Int32)) < (1 : Int32)
  · refine go (B := T4.setTop (mkF m 50 #[.val (.int p1), .val (.int p2), .val (.int p3), .val (.int p4), .val (.int p5), .val (.int p6), .val (.ref b1), .val (.int (1 : Int32)), .val (.int (p5 &&& (3 : Int32))), .unset] [])) (fun _ k => XS.icmpYes X4.here hx rfl (pc0 := 41) (pc' := 50) rfl (hb hby at_41) rfl (tlt hc41).1 (by decide) (by decide) k) ?_
    refine go (B := T4.setTop (mkF m 52 #[.val (.int p1), .val (.int p2), .val (.int p3), .val (.int p4), .val (.int p5), .val (.int p6), .val (.ref b1), .val (.int (1 : Int32)), .val (.int (p5 &&& (3 : Int32))), .unset] [(.int (p5 &&& (3 : Int32)))])) (fun _ k => XS.iload X4.here hx rfl (hb hby at_50) rfl k) ?_
    refine go (B := T4.setTop (mkF m 53 #[.val (.int p1), .val (.int p2), .val (.int p3), .val (.int p4), .val (.int p5), .val (.int p6), .val (.ref b1), .val (.int (1 : Int32)), .val (.int (p5 &&& (3 : Int32))), .unset] [(.int (2 : Int32)), (.int (p5 &&& (3 : Int32)))])) (fun _ k => XS.iconst X4.here hx rfl (hb hby at_52) k) ?_
    by_cases hc53 : (p5 &&& (3 : Int32)) < (2 : Int32)
    · refine go (B := T4.setTop (mkF m 62 #[.val (.int p1), .val (.int p2), .val (.int p3), .val (.int p4), .val (.int p5), .val (.int p6), .val (.ref b1), .val (.int (1 : Int32)), .val (.int (p5 &&& (3 : Int32))), .unset] [])) (fun _ k => XS.icmpYes X4.here hx rfl (pc0 := 53) (pc' := 62) rfl (hb hby at_53) rfl (tlt hc53).1 (by decide) (by decide) k) ?_
      refine go (B := T4.setTop (mkF m 64 #[.val (.int p1), .val (.int p2), .val (.int p3), .val (.int p4), .val (.int p5), .val (.int p6), .val (.ref b1), .val (.int (1 : Int32)), .val (.int (p5 &&& (3 : Int32))), .unset] [(.int (p5 &&& (3 : Int32)))])) (fun _ k => XS.iload X4.here hx rfl (hb hby at_62) rfl k) ?_
      refine go (B := T4.setTop (mkF m 65 #[.val (.int p1), .val (.int p2), .val (.int p3), .val (.int p4), .val (.int p5), .val (.int p6), .val (.ref b1), .val (.int (1 : Int32)), .val (.int (p5 &&& (3 : Int32))), .unset] [(.int (3 : Int32)), (.int (p5 &&& (3 : Int32)))])) (fun _ k => XS.iconst X4.here hx rfl (hb hby at_64) k) ?_
      by_cases hc65 : (p5 &&& (3 : Int32)) < (3 : Int32)
      · refine go (B := T4.setTop (mkF m 74 #[.val (.int p1), .val (.int p2), .val (.int p3), .val (.int p4), .val (.int p5), .val (.int p6), .val (.ref b1), .val (.int (1 : Int32)), .val (.int (p5 &&& (3 : Int32))), .unset] [])) (fun _ k => XS.icmpYes X4.here hx rfl (pc0 := 65) (pc' := 74) rfl (hb hby at_65) rfl (tlt hc65).1 (by decide) (by decide) k) ?_
        refine go (B := T4.setTop (mkF m 76 #[.val (.int p1), .val (.int p2), .val (.int p3), .val (.int p4), .val (.int p5), .val (.int p6), .val (.ref b1), .val (.int (1 : Int32)), .val (.int (p5 &&& (3 : Int32))), .unset] [(.int (p5 &&& (3 : Int32)))])) (fun _ k => XS.iload X4.here hx rfl (hb hby at_74) rfl k) ?_
        by_cases hc76 : (p5 &&& (3 : Int32)) = (0 : Int32)
        · refine go (B := T4.setTop (mkF m 79 #[.val (.int p1), .val (.int p2), .val (.int p3), .val (.int p4), .val (.int p5), .val (.int p6), .val (.ref b1), .val (.int (1 : Int32)), .val (.int (p5 &&& (3 : Int32))), .unset] [])) (fun _ k => XS.ifNo X4.here hx rfl (hb hby at_76) rfl ((if0 _ _).trans (teq hc76).2) k) ?_
          refine go (B := T4.setTop (mkF m 80 #[.val (.int p1), .val (.int p2), .val (.int p3), .val (.int p4), .val (.int p5), .val (.int p6), .val (.ref b1), .val (.int (1 : Int32)), .val (.int (p5 &&& (3 : Int32))), .unset] [(.int (0 : Int32))])) (fun _ k => XS.iconst X4.here hx rfl (hb hby at_79) k) ?_
          refine go (B := T4.setTop (mkF m 104 #[.val (.int p1), .val (.int p2), .val (.int p3), .val (.int p4), .val (.int p5), .val (.int p6), .val (.ref b1), .val (.int (1 : Int32)), .val (.int (p5 &&& (3 : Int32))), .unset] [(.int (0 : Int32))])) (fun _ k => XS.goto X4.here hx rfl (pc0 := 80) (pc' := 104) rfl (hb hby at_80) (by decide) (by decide) k) ?_
          refine go (B := T4.setTop (mkF m 106 #[.val (.int p1), .val (.int p2), .val (.int p3), .val (.int p4), .val (.int p5), .val (.int p6), .val (.ref b1), .val (.int (1 : Int32)), .val (.int (p5 &&& (3 : Int32))), .val (.int (0 : Int32))] [])) (fun _ k => XS.istore X4.here hx rfl (hb hby at_104) rfl (l' := #[.val (.int p1), .val (.int p2), .val (.int p3), .val (.int p4), .val (.int p5), .val (.int p6), .val (.ref b1), .val (.int (1 : Int32)), .val (.int (p5 &&& (3 : Int32))), .val (.int (0 : Int32))]) rfl k) ?_
          refine go (B := T4.setTop (mkF m 108 #[.val (.int p1), .val (.int p2), .val (.int p3), .val (.int p4), .val (.int p5), .val (.int p6), .val (.ref b1), .val (.int (1 : Int32)), .val (.int (p5 &&& (3 : Int32))), .val (.int (0 : Int32))] [(.int (1 : Int32))])) (fun _ k => XS.iload X4.here hx rfl (hb hby at_106) rfl k) ?_
          have hc108 : ¬ ((1 : Int32) = (0 : Int32)) := by decide
          refine go (B := T4.setTop (mkF m 111 #[.val (.int p1), .val (.int p2), .val (.int p3), .val (.int p4), .val (.int p5), .val (.int p6), .val (.ref b1), .val (.int (1 : Int32)), .val (.int (p5 &&& (3 : Int32))), .val (.int (0 : Int32))] [])) (fun _ k => XS.ifNo X4.here hx rfl (hb hby at_108) rfl ((if0 _ _).trans (feq hc108).1) k) ?_
          refine go (B := T4.setTop (mkF m 113 #[.val (.int p1), .val (.int p2), .val (.int p3), .val (.int p4), .val (.int p5), .val (.int p6), .val (.ref b1), .val (.int (1 : Int32)), .val (.int (p5 &&& (3 : Int32))), .val (.int (0 : Int32))] [(.ref b1)])) (fun _ k => XS.aload X4.here hx rfl (hb hby at_111) rfl rfl k) ?_
          obtain ⟨cq5, kq5, q5a, q5b, q5c⟩ := isOf hZ rfl R4.1
          obtain ⟨_, _, ⟨T5, L5, k5, n5⟩, -, X5, ⟨Lc5, hQ5, l5, y5, z5⟩, st5⟩ := X4.virtualBack hx (y := (⟨"com/example/zonecast/zonecast/RecordValues", "next", "()I"⟩ : MethodName)) (z := (⟨"com/example/zonecast/zonecast/RecordValues", "next", "()I"⟩ : MethodName)) hown (mvT hZ (hw _ (List.mem_of_getElem? (i := 17) rfl))) (mvT hZ (hw _ (List.mem_of_getElem? (i := 18) rfl))) (notFace_of_selects (args := #[]) (mvT hZ (hw _ (List.mem_of_getElem? (i := 20) rfl)))) (mvT hZ (hw _ (List.mem_of_getElem? (i := 20) rfl))) (mvT hZ (hw _ (List.mem_of_getElem? (i := 19) rfl))) (by decide) (backOf (W := 0) (rm3 l Z a0 hw [] b1 t4 en4 dg4 (0 : Int32) (mx (0 : Int32) (0 : Int32)) (mx (0 : Int32) (3 : Int32)) (mx (0 : Int32) (0 : Int32)) x4 T4.heap n0 Zr4 R4 (by decide +kernel) (by decide +kernel)) hZ (hw _ (List.mem_of_getElem? (i := 21) rfl)) (hw _ (List.mem_of_getElem? (i := 2) rfl)) (by decide) (by decide)) q5a q5c (g := (mkF m 113 #[.val (.int p1), .val (.int p2), .val (.int p3), .val (.int p4), .val (.int p5), .val (.int p6), .val (.ref b1), .val (.int (1 : Int32)), .val (.int (p5 &&& (3 : Int32))), .val (.int (0 : Int32))] [(.ref b1)])) rfl (by rw [hml]; rfl) (Steps.refl _) (argsL := []) (rest := []) (lenOf pd___I rfl) rfl (by show 2 * 0 + _ ≤ _; exact Nat.le_of_eq rfl) (hb hby at_113) (fun _ _ => ⟨rfl, rfl, (by decide : 7 + 0 ≤ _), (by decide : 41 + 0 ≤ _)⟩)
          dsimp only [Pt.U, Pt.locs, Pt.cells, Pt.slots] at X5 l5 y5 z5 st5 hQ5
          subst l5 y5 z5
          obtain ⟨rfl, N5q, e5⟩ := hQ5
          have N5 := Fr.app N4 N5q
          refine go (B := T5.setTop (mkF m 116 #[.val (.int p1), .val (.int p2), .val (.int p3), .val (.int p4), .val (.int p5), .val (.int p6), .val (.ref b1), .val (.int (1 : Int32)), .val (.int (p5 &&& (3 : Int32))), .val (.int (0 : Int32))] [(.int (fNext (0 : Int32) x4))])) (fun _ k => st5.trans k) ?_
          refine go (B := T5.setTop (mkF m 118 #[.val (.int p1), .val (.int p2), .val (.int p3), .val (.int p4), .val (.int p5), .val (.int p6), .val (.ref b1), .val (.int (1 : Int32)), .val (.int (p5 &&& (3 : Int32))), .val (.int (0 : Int32))] [(.int (0 : Int32)), (.int (fNext (0 : Int32) x4))])) (fun _ k => XS.iload X5.here hx rfl (hb hby at_116) rfl k) ?_
          have hc118 : (fNext (0 : Int32) x4) = (0 : Int32) := rfl
          refine go (B := T5.setTop (mkF m 121 #[.val (.int p1), .val (.int p2), .val (.int p3), .val (.int p4), .val (.int p5), .val (.int p6), .val (.ref b1), .val (.int (1 : Int32)), .val (.int (p5 &&& (3 : Int32))), .val (.int (0 : Int32))] [])) (fun _ k => XS.icmpNo X5.here hx rfl (hb hby at_118) rfl (teq hc118).2 k) ?_
          refine go (B := T5.setTop (mkF m 122 #[.val (.int p1), .val (.int p2), .val (.int p3), .val (.int p4), .val (.int p5), .val (.int p6), .val (.ref b1), .val (.int (1 : Int32)), .val (.int (p5 &&& (3 : Int32))), .val (.int (0 : Int32))] [(.int (1 : Int32))])) (fun _ k => XS.iconst X5.here hx rfl (hb hby at_121) k) ?_
          refine go (B := T5.setTop (mkF m 126 #[.val (.int p1), .val (.int p2), .val (.int p3), .val (.int p4), .val (.int p5), .val (.int p6), .val (.ref b1), .val (.int (1 : Int32)), .val (.int (p5 &&& (3 : Int32))), .val (.int (0 : Int32))] [(.int (1 : Int32))])) (fun _ k => XS.goto X5.here hx rfl (pc0 := 122) (pc' := 126) rfl (hb hby at_122) (by decide) (by decide) k) ?_
          refine go (B := T5.setTop (mkF m 128 #[.val (.int p1), .val (.int p2), .val (.int p3), .val (.int p4), .val (.int p5), .val (.int p6), .val (.ref b1), .val (.int (1 : Int32)), .val (.int (p5 &&& (3 : Int32))), .val (.int (0 : Int32))] [])) (fun _ k => XS.istore X5.here hx rfl (hb hby at_126) rfl (l' := #[.val (.int p1), .val (.int p2), .val (.int p3), .val (.int p4), .val (.int p5), .val (.int p6), .val (.ref b1), .val (.int (1 : Int32)), .val (.int (p5 &&& (3 : Int32))), .val (.int (0 : Int32))]) rfl k) ?_
          refine go (B := T5.setTop (mkF m 130 #[.val (.int p1), .val (.int p2), .val (.int p3), .val (.int p4), .val (.int p5), .val (.int p6), .val (.ref b1), .val (.int (1 : Int32)), .val (.int (p5 &&& (3 : Int32))), .val (.int (0 : Int32))] [(.int p6)])) (fun _ k => XS.iload X5.here hx rfl (hb hby at_128) rfl k) ?_
          refine go (B := T5.setTop (mkF m 131 #[.val (.int p1), .val (.int p2), .val (.int p3), .val (.int p4), .val (.int p5), .val (.int p6), .val (.ref b1), .val (.int (1 : Int32)), .val (.int (p5 &&& (3 : Int32))), .val (.int (0 : Int32))] [(.int (1 : Int32)), (.int p6)])) (fun _ k => XS.iconst X5.here hx rfl (hb hby at_130) k) ?_
          refine go (B := T5.setTop (mkF m 132 #[.val (.int p1), .val (.int p2), .val (.int p3), .val (.int p4), .val (.int p5), .val (.int p6), .val (.ref b1), .val (.int (1 : Int32)), .val (.int (p5 &&& (3 : Int32))), .val (.int (0 : Int32))] [(.int (p6 &&& (1 : Int32)))])) (fun _ k => XS.iand X5.here hx rfl (hb hby at_131) rfl k) ?_
          by_cases hc132 : (p6 &&& (1 : Int32)) = (0 : Int32)
          · refine go (B := T5.setTop (mkF m 190 #[.val (.int p1), .val (.int p2), .val (.int p3), .val (.int p4), .val (.int p5), .val (.int p6), .val (.ref b1), .val (.int (1 : Int32)), .val (.int (p5 &&& (3 : Int32))), .val (.int (0 : Int32))] [])) (fun _ k => XS.ifYes X5.here hx rfl (pc0 := 132) (pc' := 190) rfl (hb hby at_132) rfl ((if0 _ _).trans (teq hc132).1) (by decide) (by decide) k) ?_
            refine go (B := T5.setTop (mkF m 192 #[.val (.int p1), .val (.int p2), .val (.int p3), .val (.int p4), .val (.int p5), .val (.int p6), .val (.ref b1), .val (.int (1 : Int32)), .val (.int (p5 &&& (3 : Int32))), .val (.int (0 : Int32))] [(.int (1 : Int32))])) (fun _ k => XS.iload X5.here hx rfl (hb hby at_190) rfl k) ?_
            refine goRetN X5 hx (t := .boolean) Bd.returns (by simp) hlk (hb hby at_192) ?_ (by decide) (by decide)
            rw [e5]
            exact ⟨rfl, N5⟩
          · refine go (B := T5.setTop (mkF m 135 #[.val (.int p1), .val (.int p2), .val (.int p3), .val (.int p4), .val (.int p5), .val (.int p6), .val (.ref b1), .val (.int (1 : Int32)), .val (.int (p5 &&& (3 : Int32))), .val (.int (0 : Int32))] [])) (fun _ k => XS.ifNo X5.here hx rfl (hb hby at_132) rfl ((if0 _ _).trans (feq hc132).1) k) ?_
            refine go (B := T5.setTop (mkF m 137 #[.val (.int p1), .val (.int p2), .val (.int p3), .val (.int p4), .val (.int p5), .val (.int p6), .val (.ref b1), .val (.int (1 : Int32)), .val (.int (p5 &&& (3 : Int32))), .val (.int (0 : Int32))] [(.ref b1)])) (fun _ k => XS.aload X5.here hx rfl (hb hby at_135) rfl rfl k) ?_
            refine go (B := T5.setTop (mkF m 138 #[.val (.int p1), .val (.int p2), .val (.int p3), .val (.int p4), .val (.int p5), .val (.int p6), .val (.ref b1), .val (.int (1 : Int32)), .val (.int (p5 &&& (3 : Int32))), .val (.int (0 : Int32))] [(.int (3 : Int32)), (.ref b1)])) (fun _ k => XS.iconst X5.here hx rfl (hb hby at_137) k) ?_
            refine go (B := T5.setTop (mkF m 139 #[.val (.int p1), .val (.int p2), .val (.int p3), .val (.int p4), .val (.int p5), .val (.int p6), .val (.ref b1), .val (.int (1 : Int32)), .val (.int (p5 &&& (3 : Int32))), .val (.int (0 : Int32))] [(.int (0 : Int32)), (.int (3 : Int32)), (.ref b1)])) (fun _ k => XS.iconst X5.here hx rfl (hb hby at_138) k) ?_
            refine go (B := T5.setTop (mkF m 140 #[.val (.int p1), .val (.int p2), .val (.int p3), .val (.int p4), .val (.int p5), .val (.int p6), .val (.ref b1), .val (.int (1 : Int32)), .val (.int (p5 &&& (3 : Int32))), .val (.int (0 : Int32))] [(.int (0 : Int32)), (.int (0 : Int32)), (.int (3 : Int32)), (.ref b1)])) (fun _ k => XS.iconst X5.here hx rfl (hb hby at_139) k) ?_
            obtain ⟨cq6, kq6, q6a, q6b, q6c⟩ := isOf hZ e5 R4.1
            obtain ⟨_, _, ⟨T6, L6, k6, n6⟩, -, X6, ⟨Lc6, hQ6, l6, y6, z6⟩, st6⟩ := X5.virtualBack hx (y := (⟨"com/example/zonecast/zonecast/RecordValues", "clear", "(III)V"⟩ : MethodName)) (z := (⟨"com/example/zonecast/zonecast/RecordValues", "clear", "(III)V"⟩ : MethodName)) hown (mvT hZ (hw _ (List.mem_of_getElem? (i := 24) rfl))) (mvT hZ (hw _ (List.mem_of_getElem? (i := 25) rfl))) (notFace_of_selects (args := #[]) (mvT hZ (hw _ (List.mem_of_getElem? (i := 27) rfl)))) (mvT hZ (hw _ (List.mem_of_getElem? (i := 27) rfl))) (mvT hZ (hw _ (List.mem_of_getElem? (i := 26) rfl))) (by decide) (backOf (W := 0) (rm4 l Z a0 hw [] b1 (3 : Int32) (0 : Int32) (0 : Int32) t4 en4 dg4 (0 : Int32) (mx (0 : Int32) (0 : Int32)) (mx (0 : Int32) (3 : Int32)) (mx (0 : Int32) (0 : Int32)) x4 T4.heap n0 Zr4 R4 (by decide +kernel) (by decide +kernel) (by decide +kernel) (by decide +kernel) (by decide +kernel) (by decide +kernel)) hZ (hw _ (List.mem_of_getElem? (i := 28) rfl)) (hw _ (List.mem_of_getElem? (i := 2) rfl)) (by decide) (by decide)) q6a q6c (g := (mkF m 140 #[.val (.int p1), .val (.int p2), .val (.int p3), .val (.int p4), .val (.int p5), .val (.int p6), .val (.ref b1), .val (.int (1 : Int32)), .val (.int (p5 &&& (3 : Int32))), .val (.int (0 : Int32))] [(.int (0 : Int32)), (.int (0 : Int32)), (.int (3 : Int32)), (.ref b1)])) rfl (by rw [hml]; rfl) (Steps.refl _) (argsL := [(.int (3 : Int32)), (.int (0 : Int32)), (.int (0 : Int32))]) (rest := []) (lenOf pd__III_V rfl) rfl (by show 2 * 0 + _ ≤ _; exact Nat.le_of_eq rfl) (hb hby at_140) (fun _ _ => ⟨rfl, e5, (by decide : 7 + 3 ≤ _), (by decide : 41 + 37 ≤ _)⟩)
            dsimp only [Pt.U, Pt.locs, Pt.cells, Pt.slots] at X6 l6 y6 z6 st6 hQ6
            subst l6 y6 z6
            obtain ⟨rfl, N6q, t6, en6, dg6, x6, R6, hT6, hD6, ⟨kt6, vt6, Vt6⟩, ⟨kd6, vd6, Vd6⟩⟩ := hQ6
            have N6 := Fr.app N5 N6q
            have Zr6 := R6.2.2.2.2.2.2.2.2.2.2.2.2.2.2.2
            refine go (B := T6.setTop (mkF m 143 #[.val (.int p1), .val (.int p2), .val (.int p3), .val (.int p4), .val (.int p5), .val (.int p6), .val (.ref b1), .val (.int (1 : Int32)), .val (.int (p5 &&& (3 : Int32))), .val (.int (0 : Int32))] [])) (fun _ k => st6.trans k) ?_
            refine go (B := T6.setTop (mkF m 145 #[.val (.int p1), .val (.int p2), .val (.int p3), .val (.int p4), .val (.int p5), .val (.int p6), .val (.ref b1), .val (.int (1 : Int32)), .val (.int (p5 &&& (3 : Int32))), .val (.int (0 : Int32))] [(.int (1 : Int32))])) (fun _ k => XS.iload X6.here hx rfl (hb hby at_143) rfl k) ?_
            have hc145 : ¬ ((1 : Int32) = (0 : Int32)) := by decide
            refine go (B := T6.setTop (mkF m 148 #[.val (.int p1), .val (.int p2), .val (.int p3), .val (.int p4), .val (.int p5), .val (.int p6), .val (.ref b1), .val (.int (1 : Int32)), .val (.int (p5 &&& (3 : Int32))), .val (.int (0 : Int32))] [])) (fun _ k => XS.ifNo X6.here hx rfl (hb hby at_145) rfl ((if0 _ _).trans (feq hc145).1) k) ?_
            refine go (B := T6.setTop (mkF m 150 #[.val (.int p1), .val (.int p2), .val (.int p3), .val (.int p4), .val (.int p5), .val (.int p6), .val (.ref b1), .val (.int (1 : Int32)), .val (.int (p5 &&& (3 : Int32))), .val (.int (0 : Int32))] [(.ref b1)])) (fun _ k => XS.aload X6.here hx rfl (hb hby at_148) rfl rfl k) ?_
            obtain ⟨cq7, kq7, q7a, q7b, q7c⟩ := isOf hZ rfl R6.1
            obtain ⟨_, _, ⟨T7, L7, k7, n7⟩, -, X7, ⟨Lc7, hQ7, l7, y7, z7⟩, st7⟩ := X6.virtualBack hx (y := (⟨"com/example/zonecast/zonecast/RecordValues", "next", "()I"⟩ : MethodName)) (z := (⟨"com/example/zonecast/zonecast/RecordValues", "next", "()I"⟩ : MethodName)) hown (mvT hZ (hw _ (List.mem_of_getElem? (i := 17) rfl))) (mvT hZ (hw _ (List.mem_of_getElem? (i := 18) rfl))) (notFace_of_selects (args := #[]) (mvT hZ (hw _ (List.mem_of_getElem? (i := 20) rfl)))) (mvT hZ (hw _ (List.mem_of_getElem? (i := 20) rfl))) (mvT hZ (hw _ (List.mem_of_getElem? (i := 19) rfl))) (by decide) (backOf (W := 0) (rm3 l Z a0 hw [] b1 t6 en6 dg6 (0 : Int32) (mx (mx (0 : Int32) (0 : Int32)) (0 : Int32)) (mx (mx (0 : Int32) (3 : Int32)) (3 : Int32)) (mx (mx (0 : Int32) (0 : Int32)) (0 : Int32)) x6 T6.heap n0 Zr6 R6 (by decide +kernel) (by decide +kernel)) hZ (hw _ (List.mem_of_getElem? (i := 21) rfl)) (hw _ (List.mem_of_getElem? (i := 2) rfl)) (by decide) (by decide)) q7a q7c (g := (mkF m 150 #[.val (.int p1), .val (.int p2), .val (.int p3), .val (.int p4), .val (.int p5), .val (.int p6), .val (.ref b1), .val (.int (1 : Int32)), .val (.int (p5 &&& (3 : Int32))), .val (.int (0 : Int32))] [(.ref b1)])) rfl (by rw [hml]; rfl) (Steps.refl _) (argsL := []) (rest := []) (lenOf pd___I rfl) rfl (by show 2 * 0 + _ ≤ _; exact Nat.le_of_eq rfl) (hb hby at_150) (fun _ _ => ⟨rfl, rfl, (by decide : 10 + 0 ≤ _), (by decide : 78 + 0 ≤ _)⟩)
            dsimp only [Pt.U, Pt.locs, Pt.cells, Pt.slots] at X7 l7 y7 z7 st7 hQ7
            subst l7 y7 z7
            obtain ⟨rfl, N7q, e7⟩ := hQ7
            have N7 := Fr.app N6 N7q
            refine go (B := T7.setTop (mkF m 153 #[.val (.int p1), .val (.int p2), .val (.int p3), .val (.int p4), .val (.int p5), .val (.int p6), .val (.ref b1), .val (.int (1 : Int32)), .val (.int (p5 &&& (3 : Int32))), .val (.int (0 : Int32))] [(.int (fNext (0 : Int32) x6))])) (fun _ k => st7.trans k) ?_
            have hc153 : (fNext (0 : Int32) x6) = (0 : Int32) := rfl
            refine go (B := T7.setTop (mkF m 156 #[.val (.int p1), .val (.int p2), .val (.int p3), .val (.int p4), .val (.int p5), .val (.int p6), .val (.ref b1), .val (.int (1 : Int32)), .val (.int (p5 &&& (3 : Int32))), .val (.int (0 : Int32))] [])) (fun _ k => XS.ifNo X7.here hx rfl (hb hby at_153) rfl ((if0 _ _).trans (teq hc153).2) k) ?_
            refine go (B := T7.setTop (mkF m 157 #[.val (.int p1), .val (.int p2), .val (.int p3), .val (.int p4), .val (.int p5), .val (.int p6), .val (.ref b1), .val (.int (1 : Int32)), .val (.int (p5 &&& (3 : Int32))), .val (.int (0 : Int32))] [(.int (1 : Int32))])) (fun _ k => XS.iconst X7.here hx rfl (hb hby at_156) k) ?_
            refine go (B := T7.setTop (mkF m 161 #[.val (.int p1), .val (.int p2), .val (.int p3), .val (.int p4), .val (.int p5), .val (.int p6), .val (.ref b1), .val (.int (1 : Int32)), .val (.int (p5 &&& (3 : Int32))), .val (.int (0 : Int32))] [(.int (1 : Int32))])) (fun _ k => XS.goto X7.here hx rfl (pc0 := 157) (pc' := 161) rfl (hb hby at_157) (by decide) (by decide) k) ?_
            refine go (B := T7.setTop (mkF m 163 #[.val (.int p1), .val (.int p2), .val (.int p3), .val (.int p4), .val (.int p5), .val (.int p6), .val (.ref b1), .val (.int (1 : Int32)), .val (.int (p5 &&& (3 : Int32))), .val (.int (0 : Int32))] [])) (fun _ k => XS.istore X7.here hx rfl (hb hby at_161) rfl (l' := #[.val (.int p1), .val (.int p2), .val (.int p3), .val (.int p4), .val (.int p5), .val (.int p6), .val (.ref b1), .val (.int (1 : Int32)), .val (.int (p5 &&& (3 : Int32))), .val (.int (0 : Int32))]) rfl k) ?_
            refine go (B := T7.setTop (mkF m 165 #[.val (.int p1), .val (.int p2), .val (.int p3), .val (.int p4), .val (.int p5), .val (.int p6), .val (.ref b1), .val (.int (1 : Int32)), .val (.int (p5 &&& (3 : Int32))), .val (.int (0 : Int32))] [(.ref b1)])) (fun _ k => XS.aload X7.here hx rfl (hb hby at_163) rfl rfl k) ?_
            refine go (B := T7.setTop (mkF m 166 #[.val (.int p1), .val (.int p2), .val (.int p3), .val (.int p4), .val (.int p5), .val (.int p6), .val (.ref b1), .val (.int (1 : Int32)), .val (.int (p5 &&& (3 : Int32))), .val (.int (0 : Int32))] [(.int p4), (.ref b1)])) (fun _ k => XS.iloadN X7.here hx rfl (hb hby at_165) rfl k) ?_
            obtain ⟨cq8, kq8, q8a, q8b, q8c⟩ := isOf hZ e7 R6.1
            obtain ⟨_, _, ⟨T8, L8, k8, n8⟩, -, X8, ⟨Lc8, hQ8, l8, y8, z8⟩, st8⟩ := X7.virtualBack hx (y := (⟨"com/example/zonecast/zonecast/RecordValues", "add", "(I)V"⟩ : MethodName)) (z := (⟨"com/example/zonecast/zonecast/RecordValues", "add", "(I)V"⟩ : MethodName)) hown (mvT hZ (hw _ (List.mem_of_getElem? (i := 29) rfl))) (mvT hZ (hw _ (List.mem_of_getElem? (i := 30) rfl))) (notFace_of_selects (args := #[]) (mvT hZ (hw _ (List.mem_of_getElem? (i := 32) rfl)))) (mvT hZ (hw _ (List.mem_of_getElem? (i := 32) rfl))) (mvT hZ (hw _ (List.mem_of_getElem? (i := 31) rfl))) (by decide) (backOf (W := 0) (rm5 l Z a0 hw [] b1 p4 t6 en6 dg6 (0 : Int32) (mx (mx (0 : Int32) (0 : Int32)) (0 : Int32)) (mx (mx (0 : Int32) (3 : Int32)) (3 : Int32)) (mx (mx (0 : Int32) (0 : Int32)) (0 : Int32)) x6 T6.heap n0 Zr6 R6 (by decide +kernel) (by decide +kernel)) hZ (hw _ (List.mem_of_getElem? (i := 33) rfl)) (hw _ (List.mem_of_getElem? (i := 2) rfl)) (by decide) (by decide)) q8a q8c (g := (mkF m 166 #[.val (.int p1), .val (.int p2), .val (.int p3), .val (.int p4), .val (.int p5), .val (.int p6), .val (.ref b1), .val (.int (1 : Int32)), .val (.int (p5 &&& (3 : Int32))), .val (.int (0 : Int32))] [(.int p4), (.ref b1)])) rfl (by rw [hml]; rfl) (Steps.refl _) (argsL := [(.int p4)]) (rest := []) (lenOf pd__I_V rfl) rfl (by show 2 * 0 + _ ≤ _; exact Nat.le_of_eq rfl) (hb hby at_166) (fun _ _ => ⟨rfl, e7, (by decide : 10 + 0 ≤ _), (by decide : 78 + 0 ≤ _)⟩)
            dsimp only [Pt.U, Pt.locs, Pt.cells, Pt.slots] at X8 l8 y8 z8 st8 hQ8
            subst l8 y8 z8
            obtain ⟨rfl, N8q, R8⟩ := hQ8
            have N8 := Fr.app N7 N8q
            have Zr8 := R8.2.2.2.2.2.2.2.2.2.2.2.2.2.2.2
            refine go (B := T8.setTop (mkF m 169 #[.val (.int p1), .val (.int p2), .val (.int p3), .val (.int p4), .val (.int p5), .val (.int p6), .val (.ref b1), .val (.int (1 : Int32)), .val (.int (p5 &&& (3 : Int32))), .val (.int (0 : Int32))] [])) (fun _ k => st8.trans k) ?_
            refine go (B := T8.setTop (mkF m 171 #[.val (.int p1), .val (.int p2), .val (.int p3), .val (.int p4), .val (.int p5), .val (.int p6), .val (.ref b1), .val (.int (1 : Int32)), .val (.int (p5 &&& (3 : Int32))), .val (.int (0 : Int32))] [(.int (1 : Int32))])) (fun _ k => XS.iload X8.here hx rfl (hb hby at_169) rfl k) ?_
            have hc171 : ¬ ((1 : Int32) = (0 : Int32)) := by decide
            refine go (B := T8.setTop (mkF m 174 #[.val (.int p1), .val (.int p2), .val (.int p3), .val (.int p4), .val (.int p5), .val (.int p6), .val (.ref b1), .val (.int (1 : Int32)), .val (.int (p5 &&& (3 : Int32))), .val (.int (0 : Int32))] [])) (fun _ k => XS.ifNo X8.here hx rfl (hb hby at_171) rfl ((if0 _ _).trans (feq hc171).1) k) ?_
            refine go (B := T8.setTop (mkF m 176 #[.val (.int p1), .val (.int p2), .val (.int p3), .val (.int p4), .val (.int p5), .val (.int p6), .val (.ref b1), .val (.int (1 : Int32)), .val (.int (p5 &&& (3 : Int32))), .val (.int (0 : Int32))] [(.ref b1)])) (fun _ k => XS.aload X8.here hx rfl (hb hby at_174) rfl rfl k) ?_
            obtain ⟨cq9, kq9, q9a, q9b, q9c⟩ := isOf hZ rfl R8.1
            obtain ⟨_, _, ⟨T9, L9, k9, n9⟩, -, X9, ⟨Lc9, hQ9, l9, y9, z9⟩, st9⟩ := X8.virtualBack hx (y := (⟨"com/example/zonecast/zonecast/RecordValues", "next", "()I"⟩ : MethodName)) (z := (⟨"com/example/zonecast/zonecast/RecordValues", "next", "()I"⟩ : MethodName)) hown (mvT hZ (hw _ (List.mem_of_getElem? (i := 17) rfl))) (mvT hZ (hw _ (List.mem_of_getElem? (i := 18) rfl))) (notFace_of_selects (args := #[]) (mvT hZ (hw _ (List.mem_of_getElem? (i := 20) rfl)))) (mvT hZ (hw _ (List.mem_of_getElem? (i := 20) rfl))) (mvT hZ (hw _ (List.mem_of_getElem? (i := 19) rfl))) (by decide) (backOf (W := 0) (rm3 l Z a0 hw [] b1 t6 en6 dg6 ((0 : Int32) + (1 : Int32)) (mx (mx (0 : Int32) (0 : Int32)) (0 : Int32)) (mx (mx (0 : Int32) (3 : Int32)) (3 : Int32)) (mx (mx (0 : Int32) (0 : Int32)) (0 : Int32)) p4 T8.heap n0 Zr8 R8 (by decide +kernel) (by decide +kernel)) hZ (hw _ (List.mem_of_getElem? (i := 21) rfl)) (hw _ (List.mem_of_getElem? (i := 2) rfl)) (by decide) (by decide)) q9a q9c (g := (mkF m 176 #[.val (.int p1), .val (.int p2), .val (.int p3), .val (.int p4), .val (.int p5), .val (.int p6), .val (.ref b1), .val (.int (1 : Int32)), .val (.int (p5 &&& (3 : Int32))), .val (.int (0 : Int32))] [(.ref b1)])) rfl (by rw [hml]; rfl) (Steps.refl _) (argsL := []) (rest := []) (lenOf pd___I rfl) rfl (by show 2 * 0 + _ ≤ _; exact Nat.le_of_eq rfl) (hb hby at_176) (fun _ _ => ⟨rfl, rfl, (by decide : 10 + 0 ≤ _), (by decide : 78 + 0 ≤ _)⟩)
            dsimp only [Pt.U, Pt.locs, Pt.cells, Pt.slots] at X9 l9 y9 z9 st9 hQ9
            subst l9 y9 z9
            obtain ⟨rfl, N9q, e9⟩ := hQ9
            have N9 := Fr.app N8 N9q
            refine go (B := T9.setTop (mkF m 179 #[.val (.int p1), .val (.int p2), .val (.int p3), .val (.int p4), .val (.int p5), .val (.int p6), .val (.ref b1), .val (.int (1 : Int32)), .val (.int (p5 &&& (3 : Int32))), .val (.int (0 : Int32))] [(.int (fNext ((0 : Int32) + (1 : Int32)) p4))])) (fun _ k => st9.trans k) ?_
            refine go (B := T9.setTop (mkF m 180 #[.val (.int p1), .val (.int p2), .val (.int p3), .val (.int p4), .val (.int p5), .val (.int p6), .val (.ref b1), .val (.int (1 : Int32)), .val (.int (p5 &&& (3 : Int32))), .val (.int (0 : Int32))] [(.int p4), (.int (fNext ((0 : Int32) + (1 : Int32)) p4))])) (fun _ k => XS.iloadN X9.here hx rfl (hb hby at_179) rfl k) ?_
            have hc180 : (fNext ((0 : Int32) + (1 : Int32)) p4) = p4 := fNext_ne (by decide +kernel)
            refine go (B := T9.setTop (mkF m 183 #[.val (.int p1), .val (.int p2), .val (.int p3), .val (.int p4), .val (.int p5), .val (.int p6), .val (.ref b1), .val (.int (1 : Int32)), .val (.int (p5 &&& (3 : Int32))), .val (.int (0 : Int32))] [])) (fun _ k => XS.icmpNo X9.here hx rfl (hb hby at_180) rfl (teq hc180).2 k) ?_
            refine go (B := T9.setTop (mkF m 184 #[.val (.int p1), .val (.int p2), .val (.int p3), .val (.int p4), .val (.int p5), .val (.int p6), .val (.ref b1), .val (.int (1 : Int32)), .val (.int (p5 &&& (3 : Int32))), .val (.int (0 : Int32))] [(.int (1 : Int32))])) (fun _ k => XS.iconst X9.here hx rfl (hb hby at_183) k) ?_
            refine go (B := T9.setTop (mkF m 188 #[.val (.int p1), .val (.int p2), .val (.int p3), .val (.int p4), .val (.int p5), .val (.int p6), .val (.ref b1), .val (.int (1 : Int32)), .val (.int (p5 &&& (3 : Int32))), .val (.int (0 : Int32))] [(.int (1 : Int32))])) (fun _ k => XS.goto X9.here hx rfl (pc0 := 184) (pc' := 188) rfl (hb hby at_184) (by decide) (by decide) k) ?_
            refine go (B := T9.setTop (mkF m 190 #[.val (.int p1), .val (.int p2), .val (.int p3), .val (.int p4), .val (.int p5), .val (.int p6), .val (.ref b1), .val (.int (1 : Int32)), .val (.int (p5 &&& (3 : Int32))), .val (.int (0 : Int32))] [])) (fun _ k => XS.istore X9.here hx rfl (hb hby at_188) rfl (l' := #[.val (.int p1), .val (.int p2), .val (.int p3), .val (.int p4), .val (.int p5), .val (.int p6), .val (.ref b1), .val (.int (1 : Int32)), .val (.int (p5 &&& (3 : Int32))), .val (.int (0 : Int32))]) rfl k) ?_
            refine go (B := T9.setTop (mkF m 192 #[.val (.int p1), .val (.int p2), .val (.int p3), .val (.int p4), .val (.int p5), .val (.int p6), .val (.ref b1), .val (.int (1 : Int32)), .val (.int (p5 &&& (3 : Int32))), .val (.int (0 : Int32))] [(.int (1 : Int32))])) (fun _ k => XS.iload X9.here hx rfl (hb hby at_190) rfl k) ?_
            refine goRetN X9 hx (t := .boolean) Bd.returns (by simp) hlk (hb hby at_192) ?_ (by decide) (by decide)
            rw [e9]
            exact ⟨rfl, N9⟩
        · exfalso
          have kq := k_in p5
          simp only [Int32.lt_iff_toInt_lt, Int64.lt_iff_toInt_lt, ← Int32.toInt_inj, ← Int64.toInt_inj, Int32.reduceToInt, Int64.reduceToInt] at hc41 hc53 hc65 hc76
          omega
      · exfalso
        have kq := k_in p5
        simp only [Int32.lt_iff_toInt_lt, Int64.lt_iff_toInt_lt, ← Int32.toInt_inj, ← Int64.toInt_inj, Int32.reduceToInt, Int64.reduceToInt] at hc41 hc53 hc65
        omega
    · exfalso
      have kq := k_in p5
      simp only [Int32.lt_iff_toInt_lt, Int64.lt_iff_toInt_lt, ← Int32.toInt_inj, ← Int64.toInt_inj, Int32.reduceToInt, Int64.reduceToInt] at hc41 hc53
      omega
  · refine go (B := T4.setTop (mkF m 44 #[.val (.int p1), .val (.int p2), .val (.int p3), .val (.int p4), .val (.int p5), .val (.int p6), .val (.ref b1), .val (.int (1 : Int32)), .val (.int (p5 &&& (3 : Int32))), .unset] [])) (fun _ k => XS.icmpNo X4.here hx rfl (hb hby at_41) rfl (flt hc41).1 k) ?_
    refine go (B := T4.setTop (mkF m 46 #[.val (.int p1), .val (.int p2), .val (.int p3), .val (.int p4), .val (.int p5), .val (.int p6), .val (.ref b1), .val (.int (1 : Int32)), .val (.int (p5 &&& (3 : Int32))), .unset] [(.ref b1)])) (fun _ k => XS.aload X4.here hx rfl (hb hby at_44) rfl rfl k) ?_
    refine go (B := T4.setTop (mkF m 47 #[.val (.int p1), .val (.int p2), .val (.int p3), .val (.int p4), .val (.int p5), .val (.int p6), .val (.ref b1), .val (.int (1 : Int32)), .val (.int (p5 &&& (3 : Int32))), .unset] [(.int p1), (.ref b1)])) (fun _ k => XS.iloadN X4.here hx rfl (hb hby at_46) rfl k) ?_
    obtain ⟨cq10, kq10, q10a, q10b, q10c⟩ := isOf hZ rfl R4.1
    obtain ⟨_, _, ⟨T10, L10, k10, n10⟩, -, X10, ⟨Lc10, hQ10, l10, y10, z10⟩, st10⟩ := X4.virtualBack hx (y := (⟨"com/example/zonecast/zonecast/RecordValues", "add", "(I)V"⟩ : MethodName)) (z := (⟨"com/example/zonecast/zonecast/RecordValues", "add", "(I)V"⟩ : MethodName)) hown (mvT hZ (hw _ (List.mem_of_getElem? (i := 29) rfl))) (mvT hZ (hw _ (List.mem_of_getElem? (i := 30) rfl))) (notFace_of_selects (args := #[]) (mvT hZ (hw _ (List.mem_of_getElem? (i := 32) rfl)))) (mvT hZ (hw _ (List.mem_of_getElem? (i := 32) rfl))) (mvT hZ (hw _ (List.mem_of_getElem? (i := 31) rfl))) (by decide) (backOf (W := 0) (rm5 l Z a0 hw [] b1 p1 t4 en4 dg4 (0 : Int32) (mx (0 : Int32) (0 : Int32)) (mx (0 : Int32) (3 : Int32)) (mx (0 : Int32) (0 : Int32)) x4 T4.heap n0 Zr4 R4 (by decide +kernel) (by decide +kernel)) hZ (hw _ (List.mem_of_getElem? (i := 33) rfl)) (hw _ (List.mem_of_getElem? (i := 2) rfl)) (by decide) (by decide)) q10a q10c (g := (mkF m 47 #[.val (.int p1), .val (.int p2), .val (.int p3), .val (.int p4), .val (.int p5), .val (.int p6), .val (.ref b1), .val (.int (1 : Int32)), .val (.int (p5 &&& (3 : Int32))), .unset] [(.int p1), (.ref b1)])) rfl (by rw [hml]; rfl) (Steps.refl _) (argsL := [(.int p1)]) (rest := []) (lenOf pd__I_V rfl) rfl (by show 2 * 0 + _ ≤ _; exact Nat.le_of_eq rfl) (hb hby at_47) (fun _ _ => ⟨rfl, rfl, (by decide : 7 + 0 ≤ _), (by decide : 41 + 0 ≤ _)⟩)
    dsimp only [Pt.U, Pt.locs, Pt.cells, Pt.slots] at X10 l10 y10 z10 st10 hQ10
    subst l10 y10 z10
    obtain ⟨rfl, N10q, R10⟩ := hQ10
    have N10 := Fr.app N4 N10q
    have Zr10 := R10.2.2.2.2.2.2.2.2.2.2.2.2.2.2.2
    refine go (B := T10.setTop (mkF m 50 #[.val (.int p1), .val (.int p2), .val (.int p3), .val (.int p4), .val (.int p5), .val (.int p6), .val (.ref b1), .val (.int (1 : Int32)), .val (.int (p5 &&& (3 : Int32))), .unset] [])) (fun _ k => st10.trans k) ?_
    refine go (B := T10.setTop (mkF m 52 #[.val (.int p1), .val (.int p2), .val (.int p3), .val (.int p4), .val (.int p5), .val (.int p6), .val (.ref b1), .val (.int (1 : Int32)), .val (.int (p5 &&& (3 : Int32))), .unset] [(.int (p5 &&& (3 : Int32)))])) (fun _ k => XS.iload X10.here hx rfl (hb hby at_50) rfl k) ?_
    refine go (B := T10.setTop (mkF m 53 #[.val (.int p1), .val (.int p2), .val (.int p3), .val (.int p4), .val (.int p5), .val (.int p6), .val (.ref b1), .val (.int (1 : Int32)), .val (.int (p5 &&& (3 : Int32))), .unset] [(.int (2 : Int32)), (.int (p5 &&& (3 : Int32)))])) (fun _ k => XS.iconst X10.here hx rfl (hb hby at_52) k) ?_
    by_cases hc53 : (p5 &&& (3 : Int32)) < (2 : Int32)
    · refine go (B := T10.setTop (mkF m 62 #[.val (.int p1), .val (.int p2), .val (.int p3), .val (.int p4), .val (.int p5), .val (.int p6), .val (.ref b1), .val (.int (1 : Int32)), .val (.int (p5 &&& (3 : Int32))), .unset] [])) (fun _ k => XS.icmpYes X10.here hx rfl (pc0 := 53) (pc' := 62) rfl (hb hby at_53) rfl (tlt hc53).1 (by decide) (by decide) k) ?_
      refine go (B := T10.setTop (mkF m 64 #[.val (.int p1), .val (.int p2), .val (.int p3), .val (.int p4), .val (.int p5), .val (.int p6), .val (.ref b1), .val (.int (1 : Int32)), .val (.int (p5 &&& (3 : Int32))), .unset] [(.int (p5 &&& (3 : Int32)))])) (fun _ k => XS.iload X10.here hx rfl (hb hby at_62) rfl k) ?_
      refine go (B := T10.setTop (mkF m 65 #[.val (.int p1), .val (.int p2), .val (.int p3), .val (.int p4), .val (.int p5), .val (.int p6), .val (.ref b1), .val (.int (1 : Int32)), .val (.int (p5 &&& (3 : Int32))), .unset] [(.int (3 : Int32)), (.int (p5 &&& (3 : Int32)))])) (fun _ k => XS.iconst X10.here hx rfl (hb hby at_64) k) ?_
      by_cases hc65 : (p5 &&& (3 : Int32)) < (3 : Int32)
      · refine go (B := T10.setTop (mkF m 74 #[.val (.int p1), .val (.int p2), .val (.int p3), .val (.int p4), .val (.int p5), .val (.int p6), .val (.ref b1), .val (.int (1 : Int32)), .val (.int (p5 &&& (3 : Int32))), .unset] [])) (fun _ k => XS.icmpYes X10.here hx rfl (pc0 := 65) (pc' := 74) rfl (hb hby at_65) rfl (tlt hc65).1 (by decide) (by decide) k) ?_
        refine go (B := T10.setTop (mkF m 76 #[.val (.int p1), .val (.int p2), .val (.int p3), .val (.int p4), .val (.int p5), .val (.int p6), .val (.ref b1), .val (.int (1 : Int32)), .val (.int (p5 &&& (3 : Int32))), .unset] [(.int (p5 &&& (3 : Int32)))])) (fun _ k => XS.iload X10.here hx rfl (hb hby at_74) rfl k) ?_
        by_cases hc76 : (p5 &&& (3 : Int32)) = (0 : Int32)
        · exfalso
          have kq := k_in p5
          simp only [Int32.lt_iff_toInt_lt, Int64.lt_iff_toInt_lt, ← Int32.toInt_inj, ← Int64.toInt_inj, Int32.reduceToInt, Int64.reduceToInt] at hc41 hc53 hc65 hc76
          omega
        · refine go (B := T10.setTop (mkF m 83 #[.val (.int p1), .val (.int p2), .val (.int p3), .val (.int p4), .val (.int p5), .val (.int p6), .val (.ref b1), .val (.int (1 : Int32)), .val (.int (p5 &&& (3 : Int32))), .unset] [])) (fun _ k => XS.ifYes X10.here hx rfl (pc0 := 76) (pc' := 83) rfl (hb hby at_76) rfl ((if0 _ _).trans (feq hc76).2) (by decide) (by decide) k) ?_
          refine go (B := T10.setTop (mkF m 85 #[.val (.int p1), .val (.int p2), .val (.int p3), .val (.int p4), .val (.int p5), .val (.int p6), .val (.ref b1), .val (.int (1 : Int32)), .val (.int (p5 &&& (3 : Int32))), .unset] [(.int (p5 &&& (3 : Int32)))])) (fun _ k => XS.iload X10.here hx rfl (hb hby at_83) rfl k) ?_
          refine go (B := T10.setTop (mkF m 86 #[.val (.int p1), .val (.int p2), .val (.int p3), .val (.int p4), .val (.int p5), .val (.int p6), .val (.ref b1), .val (.int (1 : Int32)), .val (.int (p5 &&& (3 : Int32))), .unset] [(.int (1 : Int32)), (.int (p5 &&& (3 : Int32)))])) (fun _ k => XS.iconst X10.here hx rfl (hb hby at_85) k) ?_
          by_cases hc86 : (p5 &&& (3 : Int32)) = (1 : Int32)
          · refine go (B := T10.setTop (mkF m 89 #[.val (.int p1), .val (.int p2), .val (.int p3), .val (.int p4), .val (.int p5), .val (.int p6), .val (.ref b1), .val (.int (1 : Int32)), .val (.int (p5 &&& (3 : Int32))), .unset] [])) (fun _ k => XS.icmpNo X10.here hx rfl (hb hby at_86) rfl (teq hc86).2 k) ?_
            refine go (B := T10.setTop (mkF m 90 #[.val (.int p1), .val (.int p2), .val (.int p3), .val (.int p4), .val (.int p5), .val (.int p6), .val (.ref b1), .val (.int (1 : Int32)), .val (.int (p5 &&& (3 : Int32))), .unset] [(.int p1)])) (fun _ k => XS.iloadN X10.here hx rfl (hb hby at_89) rfl k) ?_
            refine go (B := T10.setTop (mkF m 104 #[.val (.int p1), .val (.int p2), .val (.int p3), .val (.int p4), .val (.int p5), .val (.int p6), .val (.ref b1), .val (.int (1 : Int32)), .val (.int (p5 &&& (3 : Int32))), .unset] [(.int p1)])) (fun _ k => XS.goto X10.here hx rfl (pc0 := 90) (pc' := 104) rfl (hb hby at_90) (by decide) (by decide) k) ?_
            refine go (B := T10.setTop (mkF m 106 #[.val (.int p1), .val (.int p2), .val (.int p3), .val (.int p4), .val (.int p5), .val (.int p6), .val (.ref b1), .val (.int (1 : Int32)), .val (.int (p5 &&& (3 : Int32))), .val (.int p1)] [])) (fun _ k => XS.istore X10.here hx rfl (hb hby at_104) rfl (l' := #[.val (.int p1), .val (.int p2), .val (.int p3), .val (.int p4), .val (.int p5), .val (.int p6), .val (.ref b1), .val (.int (1 : Int32)), .val (.int (p5 &&& (3 : Int32))), .val (.int p1)]) rfl k) ?_
            refine go (B := T10.setTop (mkF m 108 #[.val (.int p1), .val (.int p2), .val (.int p3), .val (.int p4), .val (.int p5), .val (.int p6), .val (.ref b1), .val (.int (1 : Int32)), .val (.int (p5 &&& (3 : Int32))), .val (.int p1)] [(.int (1 : Int32))])) (fun _ k => XS.iload X10.here hx rfl (hb hby at_106) rfl k) ?_
            have hc108 : ¬ ((1 : Int32) = (0 : Int32)) := by decide
            refine go (B := T10.setTop (mkF m 111 #[.val (.int p1), .val (.int p2), .val (.int p3), .val (.int p4), .val (.int p5), .val (.int p6), .val (.ref b1), .val (.int (1 : Int32)), .val (.int (p5 &&& (3 : Int32))), .val (.int p1)] [])) (fun _ k => XS.ifNo X10.here hx rfl (hb hby at_108) rfl ((if0 _ _).trans (feq hc108).1) k) ?_
            refine go (B := T10.setTop (mkF m 113 #[.val (.int p1), .val (.int p2), .val (.int p3), .val (.int p4), .val (.int p5), .val (.int p6), .val (.ref b1), .val (.int (1 : Int32)), .val (.int (p5 &&& (3 : Int32))), .val (.int p1)] [(.ref b1)])) (fun _ k => XS.aload X10.here hx rfl (hb hby at_111) rfl rfl k) ?_
            obtain ⟨cq11, kq11, q11a, q11b, q11c⟩ := isOf hZ rfl R10.1
            obtain ⟨_, _, ⟨T11, L11, k11, n11⟩, -, X11, ⟨Lc11, hQ11, l11, y11, z11⟩, st11⟩ := X10.virtualBack hx (y := (⟨"com/example/zonecast/zonecast/RecordValues", "next", "()I"⟩ : MethodName)) (z := (⟨"com/example/zonecast/zonecast/RecordValues", "next", "()I"⟩ : MethodName)) hown (mvT hZ (hw _ (List.mem_of_getElem? (i := 17) rfl))) (mvT hZ (hw _ (List.mem_of_getElem? (i := 18) rfl))) (notFace_of_selects (args := #[]) (mvT hZ (hw _ (List.mem_of_getElem? (i := 20) rfl)))) (mvT hZ (hw _ (List.mem_of_getElem? (i := 20) rfl))) (mvT hZ (hw _ (List.mem_of_getElem? (i := 19) rfl))) (by decide) (backOf (W := 0) (rm3 l Z a0 hw [] b1 t4 en4 dg4 ((0 : Int32) + (1 : Int32)) (mx (0 : Int32) (0 : Int32)) (mx (0 : Int32) (3 : Int32)) (mx (0 : Int32) (0 : Int32)) p1 T10.heap n0 Zr10 R10 (by decide +kernel) (by decide +kernel)) hZ (hw _ (List.mem_of_getElem? (i := 21) rfl)) (hw _ (List.mem_of_getElem? (i := 2) rfl)) (by decide) (by decide)) q11a q11c (g := (mkF m 113 #[.val (.int p1), .val (.int p2), .val (.int p3), .val (.int p4), .val (.int p5), .val (.int p6), .val (.ref b1), .val (.int (1 : Int32)), .val (.int (p5 &&& (3 : Int32))), .val (.int p1)] [(.ref b1)])) rfl (by rw [hml]; rfl) (Steps.refl _) (argsL := []) (rest := []) (lenOf pd___I rfl) rfl (by show 2 * 0 + _ ≤ _; exact Nat.le_of_eq rfl) (hb hby at_113) (fun _ _ => ⟨rfl, rfl, (by decide : 7 + 0 ≤ _), (by decide : 41 + 0 ≤ _)⟩)
            dsimp only [Pt.U, Pt.locs, Pt.cells, Pt.slots] at X11 l11 y11 z11 st11 hQ11
            subst l11 y11 z11
            obtain ⟨rfl, N11q, e11⟩ := hQ11
            have N11 := Fr.app N10 N11q
            refine go (B := T11.setTop (mkF m 116 #[.val (.int p1), .val (.int p2), .val (.int p3), .val (.int p4), .val (.int p5), .val (.int p6), .val (.ref b1), .val (.int (1 : Int32)), .val (.int (p5 &&& (3 : Int32))), .val (.int p1)] [(.int (fNext ((0 : Int32) + (1 : Int32)) p1))])) (fun _ k => st11.trans k) ?_
            refine go (B := T11.setTop (mkF m 118 #[.val (.int p1), .val (.int p2), .val (.int p3), .val (.int p4), .val (.int p5), .val (.int p6), .val (.ref b1), .val (.int (1 : Int32)), .val (.int (p5 &&& (3 : Int32))), .val (.int p1)] [(.int p1), (.int (fNext ((0 : Int32) + (1 : Int32)) p1))])) (fun _ k => XS.iload X11.here hx rfl (hb hby at_116) rfl k) ?_
            have hc118 : (fNext ((0 : Int32) + (1 : Int32)) p1) = p1 := fNext_ne (by decide +kernel)
            refine go (B := T11.setTop (mkF m 121 #[.val (.int p1), .val (.int p2), .val (.int p3), .val (.int p4), .val (.int p5), .val (.int p6), .val (.ref b1), .val (.int (1 : Int32)), .val (.int (p5 &&& (3 : Int32))), .val (.int p1)] [])) (fun _ k => XS.icmpNo X11.here hx rfl (hb hby at_118) rfl (teq hc118).2 k) ?_
            refine go (B := T11.setTop (mkF m 122 #[.val (.int p1), .val (.int p2), .val (.int p3), .val (.int p4), .val (.int p5), .val (.int p6), .val (.ref b1), .val (.int (1 : Int32)), .val (.int (p5 &&& (3 : Int32))), .val (.int p1)] [(.int (1 : Int32))])) (fun _ k => XS.iconst X11.here hx rfl (hb hby at_121) k) ?_
            refine go (B := T11.setTop (mkF m 126 #[.val (.int p1), .val (.int p2), .val (.int p3), .val (.int p4), .val (.int p5), .val (.int p6), .val (.ref b1), .val (.int (1 : Int32)), .val (.int (p5 &&& (3 : Int32))), .val (.int p1)] [(.int (1 : Int32))])) (fun _ k => XS.goto X11.here hx rfl (pc0 := 122) (pc' := 126) rfl (hb hby at_122) (by decide) (by decide) k) ?_
            refine go (B := T11.setTop (mkF m 128 #[.val (.int p1), .val (.int p2), .val (.int p3), .val (.int p4), .val (.int p5), .val (.int p6), .val (.ref b1), .val (.int (1 : Int32)), .val (.int (p5 &&& (3 : Int32))), .val (.int p1)] [])) (fun _ k => XS.istore X11.here hx rfl (hb hby at_126) rfl (l' := #[.val (.int p1), .val (.int p2), .val (.int p3), .val (.int p4), .val (.int p5), .val (.int p6), .val (.ref b1), .val (.int (1 : Int32)), .val (.int (p5 &&& (3 : Int32))), .val (.int p1)]) rfl k) ?_
            refine go (B := T11.setTop (mkF m 130 #[.val (.int p1), .val (.int p2), .val (.int p3), .val (.int p4), .val (.int p5), .val (.int p6), .val (.ref b1), .val (.int (1 : Int32)), .val (.int (p5 &&& (3 : Int32))), .val (.int p1)] [(.int p6)])) (fun _ k => XS.iload X11.here hx rfl (hb hby at_128) rfl k) ?_
            refine go (B := T11.setTop (mkF m 131 #[.val (.int p1), .val (.int p2), .val (.int p3), .val (.int p4), .val (.int p5), .val (.int p6), .val (.ref b1), .val (.int (1 : Int32)), .val (.int (p5 &&& (3 : Int32))), .val (.int p1)] [(.int (1 : Int32)), (.int p6)])) (fun _ k => XS.iconst X11.here hx rfl (hb hby at_130) k) ?_
            refine go (B := T11.setTop (mkF m 132 #[.val (.int p1), .val (.int p2), .val (.int p3), .val (.int p4), .val (.int p5), .val (.int p6), .val (.ref b1), .val (.int (1 : Int32)), .val (.int (p5 &&& (3 : Int32))), .val (.int p1)] [(.int (p6 &&& (1 : Int32)))])) (fun _ k => XS.iand X11.here hx rfl (hb hby at_131) rfl k) ?_
            by_cases hc132 : (p6 &&& (1 : Int32)) = (0 : Int32)
            · refine go (B := T11.setTop (mkF m 190 #[.val (.int p1), .val (.int p2), .val (.int p3), .val (.int p4), .val (.int p5), .val (.int p6), .val (.ref b1), .val (.int (1 : Int32)), .val (.int (p5 &&& (3 : Int32))), .val (.int p1)] [])) (fun _ k => XS.ifYes X11.here hx rfl (pc0 := 132) (pc' := 190) rfl (hb hby at_132) rfl ((if0 _ _).trans (teq hc132).1) (by decide) (by decide) k) ?_
              refine go (B := T11.setTop (mkF m 192 #[.val (.int p1), .val (.int p2), .val (.int p3), .val (.int p4), .val (.int p5), .val (.int p6), .val (.ref b1), .val (.int (1 : Int32)), .val (.int (p5 &&& (3 : Int32))), .val (.int p1)] [(.int (1 : Int32))])) (fun _ k => XS.iload X11.here hx rfl (hb hby at_190) rfl k) ?_
              refine goRetN X11 hx (t := .boolean) Bd.returns (by simp) hlk (hb hby at_192) ?_ (by decide) (by decide)
              rw [e11]
              exact ⟨rfl, N11⟩
            · refine go (B := T11.setTop (mkF m 135 #[.val (.int p1), .val (.int p2), .val (.int p3), .val (.int p4), .val (.int p5), .val (.int p6), .val (.ref b1), .val (.int (1 : Int32)), .val (.int (p5 &&& (3 : Int32))), .val (.int p1)] [])) (fun _ k => XS.ifNo X11.here hx rfl (hb hby at_132) rfl ((if0 _ _).trans (feq hc132).1) k) ?_
              refine go (B := T11.setTop (mkF m 137 #[.val (.int p1), .val (.int p2), .val (.int p3), .val (.int p4), .val (.int p5), .val (.int p6), .val (.ref b1), .val (.int (1 : Int32)), .val (.int (p5 &&& (3 : Int32))), .val (.int p1)] [(.ref b1)])) (fun _ k => XS.aload X11.here hx rfl (hb hby at_135) rfl rfl k) ?_
              refine go (B := T11.setTop (mkF m 138 #[.val (.int p1), .val (.int p2), .val (.int p3), .val (.int p4), .val (.int p5), .val (.int p6), .val (.ref b1), .val (.int (1 : Int32)), .val (.int (p5 &&& (3 : Int32))), .val (.int p1)] [(.int (3 : Int32)), (.ref b1)])) (fun _ k => XS.iconst X11.here hx rfl (hb hby at_137) k) ?_
              refine go (B := T11.setTop (mkF m 139 #[.val (.int p1), .val (.int p2), .val (.int p3), .val (.int p4), .val (.int p5), .val (.int p6), .val (.ref b1), .val (.int (1 : Int32)), .val (.int (p5 &&& (3 : Int32))), .val (.int p1)] [(.int (0 : Int32)), (.int (3 : Int32)), (.ref b1)])) (fun _ k => XS.iconst X11.here hx rfl (hb hby at_138) k) ?_
              refine go (B := T11.setTop (mkF m 140 #[.val (.int p1), .val (.int p2), .val (.int p3), .val (.int p4), .val (.int p5), .val (.int p6), .val (.ref b1), .val (.int (1 : Int32)), .val (.int (p5 &&& (3 : Int32))), .val (.int p1)] [(.int (0 : Int32)), (.int (0 : Int32)), (.int (3 : Int32)), (.ref b1)])) (fun _ k => XS.iconst X11.here hx rfl (hb hby at_139) k) ?_
              obtain ⟨cq12, kq12, q12a, q12b, q12c⟩ := isOf hZ e11 R10.1
              obtain ⟨_, _, ⟨T12, L12, k12, n12⟩, -, X12, ⟨Lc12, hQ12, l12, y12, z12⟩, st12⟩ := X11.virtualBack hx (y := (⟨"com/example/zonecast/zonecast/RecordValues", "clear", "(III)V"⟩ : MethodName)) (z := (⟨"com/example/zonecast/zonecast/RecordValues", "clear", "(III)V"⟩ : MethodName)) hown (mvT hZ (hw _ (List.mem_of_getElem? (i := 24) rfl))) (mvT hZ (hw _ (List.mem_of_getElem? (i := 25) rfl))) (notFace_of_selects (args := #[]) (mvT hZ (hw _ (List.mem_of_getElem? (i := 27) rfl)))) (mvT hZ (hw _ (List.mem_of_getElem? (i := 27) rfl))) (mvT hZ (hw _ (List.mem_of_getElem? (i := 26) rfl))) (by decide) (backOf (W := 0) (rm4 l Z a0 hw [] b1 (3 : Int32) (0 : Int32) (0 : Int32) t4 en4 dg4 ((0 : Int32) + (1 : Int32)) (mx (0 : Int32) (0 : Int32)) (mx (0 : Int32) (3 : Int32)) (mx (0 : Int32) (0 : Int32)) p1 T10.heap n0 Zr10 R10 (by decide +kernel) (by decide +kernel) (by decide +kernel) (by decide +kernel) (by decide +kernel) (by decide +kernel)) hZ (hw _ (List.mem_of_getElem? (i := 28) rfl)) (hw _ (List.mem_of_getElem? (i := 2) rfl)) (by decide) (by decide)) q12a q12c (g := (mkF m 140 #[.val (.int p1), .val (.int p2), .val (.int p3), .val (.int p4), .val (.int p5), .val (.int p6), .val (.ref b1), .val (.int (1 : Int32)), .val (.int (p5 &&& (3 : Int32))), .val (.int p1)] [(.int (0 : Int32)), (.int (0 : Int32)), (.int (3 : Int32)), (.ref b1)])) rfl (by rw [hml]; rfl) (Steps.refl _) (argsL := [(.int (3 : Int32)), (.int (0 : Int32)), (.int (0 : Int32))]) (rest := []) (lenOf pd__III_V rfl) rfl (by show 2 * 0 + _ ≤ _; exact Nat.le_of_eq rfl) (hb hby at_140) (fun _ _ => ⟨rfl, e11, (by decide : 7 + 3 ≤ _), (by decide : 41 + 37 ≤ _)⟩)
              dsimp only [Pt.U, Pt.locs, Pt.cells, Pt.slots] at X12 l12 y12 z12 st12 hQ12
              subst l12 y12 z12
              obtain ⟨rfl, N12q, t12, en12, dg12, x12, R12, hT12, hD12, ⟨kt12, vt12, Vt12⟩, ⟨kd12, vd12, Vd12⟩⟩ := hQ12
              have N12 := Fr.app N11 N12q
              have Zr12 := R12.2.2.2.2.2.2.2.2.2.2.2.2.2.2.2
              refine go (B := T12.setTop (mkF m 143 #[.val (.int p1), .val (.int p2), .val (.int p3), .val (.int p4), .val (.int p5), .val (.int p6), .val (.ref b1), .val (.int (1 : Int32)), .val (.int (p5 &&& (3 : Int32))), .val (.int p1)] [])) (fun _ k => st12.trans k) ?_
              refine go (B := T12.setTop (mkF m 145 #[.val (.int p1), .val (.int p2), .val (.int p3), .val (.int p4), .val (.int p5), .val (.int p6), .val (.ref b1), .val (.int (1 : Int32)), .val (.int (p5 &&& (3 : Int32))), .val (.int p1)] [(.int (1 : Int32))])) (fun _ k => XS.iload X12.here hx rfl (hb hby at_143) rfl k) ?_
              have hc145 : ¬ ((1 : Int32) = (0 : Int32)) := by decide
              refine go (B := T12.setTop (mkF m 148 #[.val (.int p1), .val (.int p2), .val (.int p3), .val (.int p4), .val (.int p5), .val (.int p6), .val (.ref b1), .val (.int (1 : Int32)), .val (.int (p5 &&& (3 : Int32))), .val (.int p1)] [])) (fun _ k => XS.ifNo X12.here hx rfl (hb hby at_145) rfl ((if0 _ _).trans (feq hc145).1) k) ?_
              refine go (B := T12.setTop (mkF m 150 #[.val (.int p1), .val (.int p2), .val (.int p3), .val (.int p4), .val (.int p5), .val (.int p6), .val (.ref b1), .val (.int (1 : Int32)), .val (.int (p5 &&& (3 : Int32))), .val (.int p1)] [(.ref b1)])) (fun _ k => XS.aload X12.here hx rfl (hb hby at_148) rfl rfl k) ?_
              obtain ⟨cq13, kq13, q13a, q13b, q13c⟩ := isOf hZ rfl R12.1
              obtain ⟨_, _, ⟨T13, L13, k13, n13⟩, -, X13, ⟨Lc13, hQ13, l13, y13, z13⟩, st13⟩ := X12.virtualBack hx (y := (⟨"com/example/zonecast/zonecast/RecordValues", "next", "()I"⟩ : MethodName)) (z := (⟨"com/example/zonecast/zonecast/RecordValues", "next", "()I"⟩ : MethodName)) hown (mvT hZ (hw _ (List.mem_of_getElem? (i := 17) rfl))) (mvT hZ (hw _ (List.mem_of_getElem? (i := 18) rfl))) (notFace_of_selects (args := #[]) (mvT hZ (hw _ (List.mem_of_getElem? (i := 20) rfl)))) (mvT hZ (hw _ (List.mem_of_getElem? (i := 20) rfl))) (mvT hZ (hw _ (List.mem_of_getElem? (i := 19) rfl))) (by decide) (backOf (W := 0) (rm3 l Z a0 hw [] b1 t12 en12 dg12 (0 : Int32) (mx (mx (0 : Int32) (0 : Int32)) (0 : Int32)) (mx (mx (0 : Int32) (3 : Int32)) (3 : Int32)) (mx (mx (0 : Int32) (0 : Int32)) (0 : Int32)) x12 T12.heap n0 Zr12 R12 (by decide +kernel) (by decide +kernel)) hZ (hw _ (List.mem_of_getElem? (i := 21) rfl)) (hw _ (List.mem_of_getElem? (i := 2) rfl)) (by decide) (by decide)) q13a q13c (g := (mkF m 150 #[.val (.int p1), .val (.int p2), .val (.int p3), .val (.int p4), .val (.int p5), .val (.int p6), .val (.ref b1), .val (.int (1 : Int32)), .val (.int (p5 &&& (3 : Int32))), .val (.int p1)] [(.ref b1)])) rfl (by rw [hml]; rfl) (Steps.refl _) (argsL := []) (rest := []) (lenOf pd___I rfl) rfl (by show 2 * 0 + _ ≤ _; exact Nat.le_of_eq rfl) (hb hby at_150) (fun _ _ => ⟨rfl, rfl, (by decide : 10 + 0 ≤ _), (by decide : 78 + 0 ≤ _)⟩)
              dsimp only [Pt.U, Pt.locs, Pt.cells, Pt.slots] at X13 l13 y13 z13 st13 hQ13
              subst l13 y13 z13
              obtain ⟨rfl, N13q, e13⟩ := hQ13
              have N13 := Fr.app N12 N13q
              refine go (B := T13.setTop (mkF m 153 #[.val (.int p1), .val (.int p2), .val (.int p3), .val (.int p4), .val (.int p5), .val (.int p6), .val (.ref b1), .val (.int (1 : Int32)), .val (.int (p5 &&& (3 : Int32))), .val (.int p1)] [(.int (fNext (0 : Int32) x12))])) (fun _ k => st13.trans k) ?_
              have hc153 : (fNext (0 : Int32) x12) = (0 : Int32) := rfl
              refine go (B := T13.setTop (mkF m 156 #[.val (.int p1), .val (.int p2), .val (.int p3), .val (.int p4), .val (.int p5), .val (.int p6), .val (.ref b1), .val (.int (1 : Int32)), .val (.int (p5 &&& (3 : Int32))), .val (.int p1)] [])) (fun _ k => XS.ifNo X13.here hx rfl (hb hby at_153) rfl ((if0 _ _).trans (teq hc153).2) k) ?_
              refine go (B := T13.setTop (mkF m 157 #[.val (.int p1), .val (.int p2), .val (.int p3), .val (.int p4), .val (.int p5), .val (.int p6), .val (.ref b1), .val (.int (1 : Int32)), .val (.int (p5 &&& (3 : Int32))), .val (.int p1)] [(.int (1 : Int32))])) (fun _ k => XS.iconst X13.here hx rfl (hb hby at_156) k) ?_
              refine go (B := T13.setTop (mkF m 161 #[.val (.int p1), .val (.int p2), .val (.int p3), .val (.int p4), .val (.int p5), .val (.int p6), .val (.ref b1), .val (.int (1 : Int32)), .val (.int (p5 &&& (3 : Int32))), .val (.int p1)] [(.int (1 : Int32))])) (fun _ k => XS.goto X13.here hx rfl (pc0 := 157) (pc' := 161) rfl (hb hby at_157) (by decide) (by decide) k) ?_
              refine go (B := T13.setTop (mkF m 163 #[.val (.int p1), .val (.int p2), .val (.int p3), .val (.int p4), .val (.int p5), .val (.int p6), .val (.ref b1), .val (.int (1 : Int32)), .val (.int (p5 &&& (3 : Int32))), .val (.int p1)] [])) (fun _ k => XS.istore X13.here hx rfl (hb hby at_161) rfl (l' := #[.val (.int p1), .val (.int p2), .val (.int p3), .val (.int p4), .val (.int p5), .val (.int p6), .val (.ref b1), .val (.int (1 : Int32)), .val (.int (p5 &&& (3 : Int32))), .val (.int p1)]) rfl k) ?_
              refine go (B := T13.setTop (mkF m 165 #[.val (.int p1), .val (.int p2), .val (.int p3), .val (.int p4), .val (.int p5), .val (.int p6), .val (.ref b1), .val (.int (1 : Int32)), .val (.int (p5 &&& (3 : Int32))), .val (.int p1)] [(.ref b1)])) (fun _ k => XS.aload X13.here hx rfl (hb hby at_163) rfl rfl k) ?_
              refine go (B := T13.setTop (mkF m 166 #[.val (.int p1), .val (.int p2), .val (.int p3), .val (.int p4), .val (.int p5), .val (.int p6), .val (.ref b1), .val (.int (1 : Int32)), .val (.int (p5 &&& (3 : Int32))), .val (.int p1)] [(.int p4), (.ref b1)])) (fun _ k => XS.iloadN X13.here hx rfl (hb hby at_165) rfl k) ?_
              obtain ⟨cq14, kq14, q14a, q14b, q14c⟩ := isOf hZ e13 R12.1
              obtain ⟨_, _, ⟨T14, L14, k14, n14⟩, -, X14, ⟨Lc14, hQ14, l14, y14, z14⟩, st14⟩ := X13.virtualBack hx (y := (⟨"com/example/zonecast/zonecast/RecordValues", "add", "(I)V"⟩ : MethodName)) (z := (⟨"com/example/zonecast/zonecast/RecordValues", "add", "(I)V"⟩ : MethodName)) hown (mvT hZ (hw _ (List.mem_of_getElem? (i := 29) rfl))) (mvT hZ (hw _ (List.mem_of_getElem? (i := 30) rfl))) (notFace_of_selects (args := #[]) (mvT hZ (hw _ (List.mem_of_getElem? (i := 32) rfl)))) (mvT hZ (hw _ (List.mem_of_getElem? (i := 32) rfl))) (mvT hZ (hw _ (List.mem_of_getElem? (i := 31) rfl))) (by decide) (backOf (W := 0) (rm5 l Z a0 hw [] b1 p4 t12 en12 dg12 (0 : Int32) (mx (mx (0 : Int32) (0 : Int32)) (0 : Int32)) (mx (mx (0 : Int32) (3 : Int32)) (3 : Int32)) (mx (mx (0 : Int32) (0 : Int32)) (0 : Int32)) x12 T12.heap n0 Zr12 R12 (by decide +kernel) (by decide +kernel)) hZ (hw _ (List.mem_of_getElem? (i := 33) rfl)) (hw _ (List.mem_of_getElem? (i := 2) rfl)) (by decide) (by decide)) q14a q14c (g := (mkF m 166 #[.val (.int p1), .val (.int p2), .val (.int p3), .val (.int p4), .val (.int p5), .val (.int p6), .val (.ref b1), .val (.int (1 : Int32)), .val (.int (p5 &&& (3 : Int32))), .val (.int p1)] [(.int p4), (.ref b1)])) rfl (by rw [hml]; rfl) (Steps.refl _) (argsL := [(.int p4)]) (rest := []) (lenOf pd__I_V rfl) rfl (by show 2 * 0 + _ ≤ _; exact Nat.le_of_eq rfl) (hb hby at_166) (fun _ _ => ⟨rfl, e13, (by decide : 10 + 0 ≤ _), (by decide : 78 + 0 ≤ _)⟩)
              dsimp only [Pt.U, Pt.locs, Pt.cells, Pt.slots] at X14 l14 y14 z14 st14 hQ14
              subst l14 y14 z14
              obtain ⟨rfl, N14q, R14⟩ := hQ14
              have N14 := Fr.app N13 N14q
              have Zr14 := R14.2.2.2.2.2.2.2.2.2.2.2.2.2.2.2
              refine go (B := T14.setTop (mkF m 169 #[.val (.int p1), .val (.int p2), .val (.int p3), .val (.int p4), .val (.int p5), .val (.int p6), .val (.ref b1), .val (.int (1 : Int32)), .val (.int (p5 &&& (3 : Int32))), .val (.int p1)] [])) (fun _ k => st14.trans k) ?_
              refine go (B := T14.setTop (mkF m 171 #[.val (.int p1), .val (.int p2), .val (.int p3), .val (.int p4), .val (.int p5), .val (.int p6), .val (.ref b1), .val (.int (1 : Int32)), .val (.int (p5 &&& (3 : Int32))), .val (.int p1)] [(.int (1 : Int32))])) (fun _ k => XS.iload X14.here hx rfl (hb hby at_169) rfl k) ?_
              have hc171 : ¬ ((1 : Int32) = (0 : Int32)) := by decide
              refine go (B := T14.setTop (mkF m 174 #[.val (.int p1), .val (.int p2), .val (.int p3), .val (.int p4), .val (.int p5), .val (.int p6), .val (.ref b1), .val (.int (1 : Int32)), .val (.int (p5 &&& (3 : Int32))), .val (.int p1)] [])) (fun _ k => XS.ifNo X14.here hx rfl (hb hby at_171) rfl ((if0 _ _).trans (feq hc171).1) k) ?_
              refine go (B := T14.setTop (mkF m 176 #[.val (.int p1), .val (.int p2), .val (.int p3), .val (.int p4), .val (.int p5), .val (.int p6), .val (.ref b1), .val (.int (1 : Int32)), .val (.int (p5 &&& (3 : Int32))), .val (.int p1)] [(.ref b1)])) (fun _ k => XS.aload X14.here hx rfl (hb hby at_174) rfl rfl k) ?_
              obtain ⟨cq15, kq15, q15a, q15b, q15c⟩ := isOf hZ rfl R14.1
              obtain ⟨_, _, ⟨T15, L15, k15, n15⟩, -, X15, ⟨Lc15, hQ15, l15, y15, z15⟩, st15⟩ := X14.virtualBack hx (y := (⟨"com/example/zonecast/zonecast/RecordValues", "next", "()I"⟩ : MethodName)) (z := (⟨"com/example/zonecast/zonecast/RecordValues", "next", "()I"⟩ : MethodName)) hown (mvT hZ (hw _ (List.mem_of_getElem? (i := 17) rfl))) (mvT hZ (hw _ (List.mem_of_getElem? (i := 18) rfl))) (notFace_of_selects (args := #[]) (mvT hZ (hw _ (List.mem_of_getElem? (i := 20) rfl)))) (mvT hZ (hw _ (List.mem_of_getElem? (i := 20) rfl))) (mvT hZ (hw _ (List.mem_of_getElem? (i := 19) rfl))) (by decide) (backOf (W := 0) (rm3 l Z a0 hw [] b1 t12 en12 dg12 ((0 : Int32) + (1 : Int32)) (mx (mx (0 : Int32) (0 : Int32)) (0 : Int32)) (mx (mx (0 : Int32) (3 : Int32)) (3 : Int32)) (mx (mx (0 : Int32) (0 : Int32)) (0 : Int32)) p4 T14.heap n0 Zr14 R14 (by decide +kernel) (by decide +kernel)) hZ (hw _ (List.mem_of_getElem? (i := 21) rfl)) (hw _ (List.mem_of_getElem? (i := 2) rfl)) (by decide) (by decide)) q15a q15c (g := (mkF m 176 #[.val (.int p1), .val (.int p2), .val (.int p3), .val (.int p4), .val (.int p5), .val (.int p6), .val (.ref b1), .val (.int (1 : Int32)), .val (.int (p5 &&& (3 : Int32))), .val (.int p1)] [(.ref b1)])) rfl (by rw [hml]; rfl) (Steps.refl _) (argsL := []) (rest := []) (lenOf pd___I rfl) rfl (by show 2 * 0 + _ ≤ _; exact Nat.le_of_eq rfl) (hb hby at_176) (fun _ _ => ⟨rfl, rfl, (by decide : 10 + 0 ≤ _), (by decide : 78 + 0 ≤ _)⟩)
              dsimp only [Pt.U, Pt.locs, Pt.cells, Pt.slots] at X15 l15 y15 z15 st15 hQ15
              subst l15 y15 z15
              obtain ⟨rfl, N15q, e15⟩ := hQ15
              have N15 := Fr.app N14 N15q
              refine go (B := T15.setTop (mkF m 179 #[.val (.int p1), .val (.int p2), .val (.int p3), .val (.int p4), .val (.int p5), .val (.int p6), .val (.ref b1), .val (.int (1 : Int32)), .val (.int (p5 &&& (3 : Int32))), .val (.int p1)] [(.int (fNext ((0 : Int32) + (1 : Int32)) p4))])) (fun _ k => st15.trans k) ?_
              refine go (B := T15.setTop (mkF m 180 #[.val (.int p1), .val (.int p2), .val (.int p3), .val (.int p4), .val (.int p5), .val (.int p6), .val (.ref b1), .val (.int (1 : Int32)), .val (.int (p5 &&& (3 : Int32))), .val (.int p1)] [(.int p4), (.int (fNext ((0 : Int32) + (1 : Int32)) p4))])) (fun _ k => XS.iloadN X15.here hx rfl (hb hby at_179) rfl k) ?_
              have hc180 : (fNext ((0 : Int32) + (1 : Int32)) p4) = p4 := fNext_ne (by decide +kernel)
              refine go (B := T15.setTop (mkF m 183 #[.val (.int p1), .val (.int p2), .val (.int p3), .val (.int p4), .val (.int p5), .val (.int p6), .val (.ref b1), .val (.int (1 : Int32)), .val (.int (p5 &&& (3 : Int32))), .val (.int p1)] [])) (fun _ k => XS.icmpNo X15.here hx rfl (hb hby at_180) rfl (teq hc180).2 k) ?_
              refine go (B := T15.setTop (mkF m 184 #[.val (.int p1), .val (.int p2), .val (.int p3), .val (.int p4), .val (.int p5), .val (.int p6), .val (.ref b1), .val (.int (1 : Int32)), .val (.int (p5 &&& (3 : Int32))), .val (.int p1)] [(.int (1 : Int32))])) (fun _ k => XS.iconst X15.here hx rfl (hb hby at_183) k) ?_
              refine go (B := T15.setTop (mkF m 188 #[.val (.int p1), .val (.int p2), .val (.int p3), .val (.int p4), .val (.int p5), .val (.int p6), .val (.ref b1), .val (.int (1 : Int32)), .val (.int (p5 &&& (3 : Int32))), .val (.int p1)] [(.int (1 : Int32))])) (fun _ k => XS.goto X15.here hx rfl (pc0 := 184) (pc' := 188) rfl (hb hby at_184) (by decide) (by decide) k) ?_
              refine go (B := T15.setTop (mkF m 190 #[.val (.int p1), .val (.int p2), .val (.int p3), .val (.int p4), .val (.int p5), .val (.int p6), .val (.ref b1), .val (.int (1 : Int32)), .val (.int (p5 &&& (3 : Int32))), .val (.int p1)] [])) (fun _ k => XS.istore X15.here hx rfl (hb hby at_188) rfl (l' := #[.val (.int p1), .val (.int p2), .val (.int p3), .val (.int p4), .val (.int p5), .val (.int p6), .val (.ref b1), .val (.int (1 : Int32)), .val (.int (p5 &&& (3 : Int32))), .val (.int p1)]) rfl k) ?_
              refine go (B := T15.setTop (mkF m 192 #[.val (.int p1), .val (.int p2), .val (.int p3), .val (.int p4), .val (.int p5), .val (.int p6), .val (.ref b1), .val (.int (1 : Int32)), .val (.int (p5 &&& (3 : Int32))), .val (.int p1)] [(.int (1 : Int32))])) (fun _ k => XS.iload X15.here hx rfl (hb hby at_190) rfl k) ?_
              refine goRetN X15 hx (t := .boolean) Bd.returns (by simp) hlk (hb hby at_192) ?_ (by decide) (by decide)
              rw [e15]
              exact ⟨rfl, N15⟩
          · exfalso
            have kq := k_in p5
            simp only [Int32.lt_iff_toInt_lt, Int64.lt_iff_toInt_lt, ← Int32.toInt_inj, ← Int64.toInt_inj, Int32.reduceToInt, Int64.reduceToInt] at hc41 hc53 hc65 hc76 hc86
            omega
      · exfalso
        have kq := k_in p5
        simp only [Int32.lt_iff_toInt_lt, Int64.lt_iff_toInt_lt, ← Int32.toInt_inj, ← Int64.toInt_inj, Int32.reduceToInt, Int64.reduceToInt] at hc41 hc53 hc65
        omega
    · refine go (B := T10.setTop (mkF m 56 #[.val (.int p1), .val (.int p2), .val (.int p3), .val (.int p4), .val (.int p5), .val (.int p6), .val (.ref b1), .val (.int (1 : Int32)), .val (.int (p5 &&& (3 : Int32))), .unset] [])) (fun _ k => XS.icmpNo X10.here hx rfl (hb hby at_53) rfl (flt hc53).1 k) ?_
      refine go (B := T10.setTop (mkF m 58 #[.val (.int p1), .val (.int p2), .val (.int p3), .val (.int p4), .val (.int p5), .val (.int p6), .val (.ref b1), .val (.int (1 : Int32)), .val (.int (p5 &&& (3 : Int32))), .unset] [(.ref b1)])) (fun _ k => XS.aload X10.here hx rfl (hb hby at_56) rfl rfl k) ?_
      refine go (B := T10.setTop (mkF m 59 #[.val (.int p1), .val (.int p2), .val (.int p3), .val (.int p4), .val (.int p5), .val (.int p6), .val (.ref b1), .val (.int (1 : Int32)), .val (.int (p5 &&& (3 : Int32))), .unset] [(.int p2), (.ref b1)])) (fun _ k => XS.iloadN X10.here hx rfl (hb hby at_58) rfl k) ?_
      obtain ⟨cq16, kq16, q16a, q16b, q16c⟩ := isOf hZ rfl R10.1
      obtain ⟨_, _, ⟨T16, L16, k16, n16⟩, -, X16, ⟨Lc16, hQ16, l16, y16, z16⟩, st16⟩ := X10.virtualBack hx (y := (⟨"com/example/zonecast/zonecast/RecordValues", "add", "(I)V"⟩ : MethodName)) (z := (⟨"com/example/zonecast/zonecast/RecordValues", "add", "(I)V"⟩ : MethodName)) hown (mvT hZ (hw _ (List.mem_of_getElem? (i := 29) rfl))) (mvT hZ (hw _ (List.mem_of_getElem? (i := 30) rfl))) (notFace_of_selects (args := #[]) (mvT hZ (hw _ (List.mem_of_getElem? (i := 32) rfl)))) (mvT hZ (hw _ (List.mem_of_getElem? (i := 32) rfl))) (mvT hZ (hw _ (List.mem_of_getElem? (i := 31) rfl))) (by decide) (backOf (W := 0) (rm5 l Z a0 hw [] b1 p2 t4 en4 dg4 ((0 : Int32) + (1 : Int32)) (mx (0 : Int32) (0 : Int32)) (mx (0 : Int32) (3 : Int32)) (mx (0 : Int32) (0 : Int32)) p1 T10.heap n0 Zr10 R10 (by decide +kernel) (by decide +kernel)) hZ (hw _ (List.mem_of_getElem? (i := 33) rfl)) (hw _ (List.mem_of_getElem? (i := 2) rfl)) (by decide) (by decide)) q16a q16c (g := (mkF m 59 #[.val (.int p1), .val (.int p2), .val (.int p3), .val (.int p4), .val (.int p5), .val (.int p6), .val (.ref b1), .val (.int (1 : Int32)), .val (.int (p5 &&& (3 : Int32))), .unset] [(.int p2), (.ref b1)])) rfl (by rw [hml]; rfl) (Steps.refl _) (argsL := [(.int p2)]) (rest := []) (lenOf pd__I_V rfl) rfl (by show 2 * 0 + _ ≤ _; exact Nat.le_of_eq rfl) (hb hby at_59) (fun _ _ => ⟨rfl, rfl, (by decide : 7 + 0 ≤ _), (by decide : 41 + 0 ≤ _)⟩)
      dsimp only [Pt.U, Pt.locs, Pt.cells, Pt.slots] at X16 l16 y16 z16 st16 hQ16
      subst l16 y16 z16
      obtain ⟨rfl, N16q, R16⟩ := hQ16
      have N16 := Fr.app N10 N16q
      have Zr16 := R16.2.2.2.2.2.2.2.2.2.2.2.2.2.2.2
      refine go (B := T16.setTop (mkF m 62 #[.val (.int p1), .val (.int p2), .val (.int p3), .val (.int p4), .val (.int p5), .val (.int p6), .val (.ref b1), .val (.int (1 : Int32)), .val (.int (p5 &&& (3 : Int32))), .unset] [])) (fun _ k => st16.trans k) ?_
      refine go (B := T16.setTop (mkF m 64 #[.val (.int p1), .val (.int p2), .val (.int p3), .val (.int p4), .val (.int p5), .val (.int p6), .val (.ref b1), .val (.int (1 : Int32)), .val (.int (p5 &&& (3 : Int32))), .unset] [(.int (p5 &&& (3 : Int32)))])) (fun _ k => XS.iload X16.here hx rfl (hb hby at_62) rfl k) ?_
      refine go (B := T16.setTop (mkF m 65 #[.val (.int p1), .val (.int p2), .val (.int p3), .val (.int p4), .val (.int p5), .val (.int p6), .val (.ref b1), .val (.int (1 : Int32)), .val (.int (p5 &&& (3 : Int32))), .unset] [(.int (3 : Int32)), (.int (p5 &&& (3 : Int32)))])) (fun _ k => XS.iconst X16.here hx rfl (hb hby at_64) k) ?_
      by_cases hc65 : (p5 &&& (3 : Int32)) < (3 : Int32)
      · refine go (B := T16.setTop (mkF m 74 #[.val (.int p1), .val (.int p2), .val (.int p3), .val (.int p4), .val (.int p5), .val (.int p6), .val (.ref b1), .val (.int (1 : Int32)), .val (.int (p5 &&& (3 : Int32))), .unset] [])) (fun _ k => XS.icmpYes X16.here hx rfl (pc0 := 65) (pc' := 74) rfl (hb hby at_65) rfl (tlt hc65).1 (by decide) (by decide) k) ?_
        refine go (B := T16.setTop (mkF m 76 #[.val (.int p1), .val (.int p2), .val (.int p3), .val (.int p4), .val (.int p5), .val (.int p6), .val (.ref b1), .val (.int (1 : Int32)), .val (.int (p5 &&& (3 : Int32))), .unset] [(.int (p5 &&& (3 : Int32)))])) (fun _ k => XS.iload X16.here hx rfl (hb hby at_74) rfl k) ?_
        by_cases hc76 : (p5 &&& (3 : Int32)) = (0 : Int32)
        · exfalso
          have kq := k_in p5
          simp only [Int32.lt_iff_toInt_lt, Int64.lt_iff_toInt_lt, ← Int32.toInt_inj, ← Int64.toInt_inj, Int32.reduceToInt, Int64.reduceToInt] at hc41 hc53 hc65 hc76
          omega
        · refine go (B := T16.setTop (mkF m 83 #[.val (.int p1), .val (.int p2), .val (.int p3), .val (.int p4), .val (.int p5), .val (.int p6), .val (.ref b1), .val (.int (1 : Int32)), .val (.int (p5 &&& (3 : Int32))), .unset] [])) (fun _ k => XS.ifYes X16.here hx rfl (pc0 := 76) (pc' := 83) rfl (hb hby at_76) rfl ((if0 _ _).trans (feq hc76).2) (by decide) (by decide) k) ?_
          refine go (B := T16.setTop (mkF m 85 #[.val (.int p1), .val (.int p2), .val (.int p3), .val (.int p4), .val (.int p5), .val (.int p6), .val (.ref b1), .val (.int (1 : Int32)), .val (.int (p5 &&& (3 : Int32))), .unset] [(.int (p5 &&& (3 : Int32)))])) (fun _ k => XS.iload X16.here hx rfl (hb hby at_83) rfl k) ?_
          refine go (B := T16.setTop (mkF m 86 #[.val (.int p1), .val (.int p2), .val (.int p3), .val (.int p4), .val (.int p5), .val (.int p6), .val (.ref b1), .val (.int (1 : Int32)), .val (.int (p5 &&& (3 : Int32))), .unset] [(.int (1 : Int32)), (.int (p5 &&& (3 : Int32)))])) (fun _ k => XS.iconst X16.here hx rfl (hb hby at_85) k) ?_
          by_cases hc86 : (p5 &&& (3 : Int32)) = (1 : Int32)
          · exfalso
            have kq := k_in p5
            simp only [Int32.lt_iff_toInt_lt, Int64.lt_iff_toInt_lt, ← Int32.toInt_inj, ← Int64.toInt_inj, Int32.reduceToInt, Int64.reduceToInt] at hc41 hc53 hc65 hc76 hc86
            omega
          · refine go (B := T16.setTop (mkF m 93 #[.val (.int p1), .val (.int p2), .val (.int p3), .val (.int p4), .val (.int p5), .val (.int p6), .val (.ref b1), .val (.int (1 : Int32)), .val (.int (p5 &&& (3 : Int32))), .unset] [])) (fun _ k => XS.icmpYes X16.here hx rfl (pc0 := 86) (pc' := 93) rfl (hb hby at_86) rfl (feq hc86).2 (by decide) (by decide) k) ?_
            refine go (B := T16.setTop (mkF m 95 #[.val (.int p1), .val (.int p2), .val (.int p3), .val (.int p4), .val (.int p5), .val (.int p6), .val (.ref b1), .val (.int (1 : Int32)), .val (.int (p5 &&& (3 : Int32))), .unset] [(.int (p5 &&& (3 : Int32)))])) (fun _ k => XS.iload X16.here hx rfl (hb hby at_93) rfl k) ?_
            refine go (B := T16.setTop (mkF m 96 #[.val (.int p1), .val (.int p2), .val (.int p3), .val (.int p4), .val (.int p5), .val (.int p6), .val (.ref b1), .val (.int (1 : Int32)), .val (.int (p5 &&& (3 : Int32))), .unset] [(.int (2 : Int32)), (.int (p5 &&& (3 : Int32)))])) (fun _ k => XS.iconst X16.here hx rfl (hb hby at_95) k) ?_
            by_cases hc96 : (p5 &&& (3 : Int32)) = (2 : Int32)
            · refine go (B := T16.setTop (mkF m 99 #[.val (.int p1), .val (.int p2), .val (.int p3), .val (.int p4), .val (.int p5), .val (.int p6), .val (.ref b1), .val (.int (1 : Int32)), .val (.int (p5 &&& (3 : Int32))), .unset] [])) (fun _ k => XS.icmpNo X16.here hx rfl (hb hby at_96) rfl (teq hc96).2 k) ?_
              refine go (B := T16.setTop (mkF m 100 #[.val (.int p1), .val (.int p2), .val (.int p3), .val (.int p4), .val (.int p5), .val (.int p6), .val (.ref b1), .val (.int (1 : Int32)), .val (.int (p5 &&& (3 : Int32))), .unset] [(.int p2)])) (fun _ k => XS.iloadN X16.here hx rfl (hb hby at_99) rfl k) ?_
              refine go (B := T16.setTop (mkF m 104 #[.val (.int p1), .val (.int p2), .val (.int p3), .val (.int p4), .val (.int p5), .val (.int p6), .val (.ref b1), .val (.int (1 : Int32)), .val (.int (p5 &&& (3 : Int32))), .unset] [(.int p2)])) (fun _ k => XS.goto X16.here hx rfl (pc0 := 100) (pc' := 104) rfl (hb hby at_100) (by decide) (by decide) k) ?_
              refine go (B := T16.setTop (mkF m 106 #[.val (.int p1), .val (.int p2), .val (.int p3), .val (.int p4), .val (.int p5), .val (.int p6), .val (.ref b1), .val (.int (1 : Int32)), .val (.int (p5 &&& (3 : Int32))), .val (.int p2)] [])) (fun _ k => XS.istore X16.here hx rfl (hb hby at_104) rfl (l' := #[.val (.int p1), .val (.int p2), .val (.int p3), .val (.int p4), .val (.int p5), .val (.int p6), .val (.ref b1), .val (.int (1 : Int32)), .val (.int (p5 &&& (3 : Int32))), .val (.int p2)]) rfl k) ?_
              refine go (B := T16.setTop (mkF m 108 #[.val (.int p1), .val (.int p2), .val (.int p3), .val (.int p4), .val (.int p5), .val (.int p6), .val (.ref b1), .val (.int (1 : Int32)), .val (.int (p5 &&& (3 : Int32))), .val (.int p2)] [(.int (1 : Int32))])) (fun _ k => XS.iload X16.here hx rfl (hb hby at_106) rfl k) ?_
              have hc108 : ¬ ((1 : Int32) = (0 : Int32)) := by decide
              refine go (B := T16.setTop (mkF m 111 #[.val (.int p1), .val (.int p2), .val (.int p3), .val (.int p4), .val (.int p5), .val (.int p6), .val (.ref b1), .val (.int (1 : Int32)), .val (.int (p5 &&& (3 : Int32))), .val (.int p2)] [])) (fun _ k => XS.ifNo X16.here hx rfl (hb hby at_108) rfl ((if0 _ _).trans (feq hc108).1) k) ?_
              refine go (B := T16.setTop (mkF m 113 #[.val (.int p1), .val (.int p2), .val (.int p3), .val (.int p4), .val (.int p5), .val (.int p6), .val (.ref b1), .val (.int (1 : Int32)), .val (.int (p5 &&& (3 : Int32))), .val (.int p2)] [(.ref b1)])) (fun _ k => XS.aload X16.here hx rfl (hb hby at_111) rfl rfl k) ?_
              obtain ⟨cq17, kq17, q17a, q17b, q17c⟩ := isOf hZ rfl R16.1
              obtain ⟨_, _, ⟨T17, L17, k17, n17⟩, -, X17, ⟨Lc17, hQ17, l17, y17, z17⟩, st17⟩ := X16.virtualBack hx (y := (⟨"com/example/zonecast/zonecast/RecordValues", "next", "()I"⟩ : MethodName)) (z := (⟨"com/example/zonecast/zonecast/RecordValues", "next", "()I"⟩ : MethodName)) hown (mvT hZ (hw _ (List.mem_of_getElem? (i := 17) rfl))) (mvT hZ (hw _ (List.mem_of_getElem? (i := 18) rfl))) (notFace_of_selects (args := #[]) (mvT hZ (hw _ (List.mem_of_getElem? (i := 20) rfl)))) (mvT hZ (hw _ (List.mem_of_getElem? (i := 20) rfl))) (mvT hZ (hw _ (List.mem_of_getElem? (i := 19) rfl))) (by decide) (backOf (W := 0) (rm3 l Z a0 hw [] b1 t4 en4 dg4 (((0 : Int32) + (1 : Int32)) + (1 : Int32)) (mx (0 : Int32) (0 : Int32)) (mx (0 : Int32) (3 : Int32)) (mx (0 : Int32) (0 : Int32)) p2 T16.heap n0 Zr16 R16 (by decide +kernel) (by decide +kernel)) hZ (hw _ (List.mem_of_getElem? (i := 21) rfl)) (hw _ (List.mem_of_getElem? (i := 2) rfl)) (by decide) (by decide)) q17a q17c (g := (mkF m 113 #[.val (.int p1), .val (.int p2), .val (.int p3), .val (.int p4), .val (.int p5), .val (.int p6), .val (.ref b1), .val (.int (1 : Int32)), .val (.int (p5 &&& (3 : Int32))), .val (.int p2)] [(.ref b1)])) rfl (by rw [hml]; rfl) (Steps.refl _) (argsL := []) (rest := []) (lenOf pd___I rfl) rfl (by show 2 * 0 + _ ≤ _; exact Nat.le_of_eq rfl) (hb hby at_113) (fun _ _ => ⟨rfl, rfl, (by decide : 7 + 0 ≤ _), (by decide : 41 + 0 ≤ _)⟩)
              dsimp only [Pt.U, Pt.locs, Pt.cells, Pt.slots] at X17 l17 y17 z17 st17 hQ17
              subst l17 y17 z17
              obtain ⟨rfl, N17q, e17⟩ := hQ17
              have N17 := Fr.app N16 N17q
              refine go (B := T17.setTop (mkF m 116 #[.val (.int p1), .val (.int p2), .val (.int p3), .val (.int p4), .val (.int p5), .val (.int p6), .val (.ref b1), .val (.int (1 : Int32)), .val (.int (p5 &&& (3 : Int32))), .val (.int p2)] [(.int (fNext (((0 : Int32) + (1 : Int32)) + (1 : Int32)) p2))])) (fun _ k => st17.trans k) ?_
              refine go (B := T17.setTop (mkF m 118 #[.val (.int p1), .val (.int p2), .val (.int p3), .val (.int p4), .val (.int p5), .val (.int p6), .val (.ref b1), .val (.int (1 : Int32)), .val (.int (p5 &&& (3 : Int32))), .val (.int p2)] [(.int p2), (.int (fNext (((0 : Int32) + (1 : Int32)) + (1 : Int32)) p2))])) (fun _ k => XS.iload X17.here hx rfl (hb hby at_116) rfl k) ?_
              have hc118 : (fNext (((0 : Int32) + (1 : Int32)) + (1 : Int32)) p2) = p2 := fNext_ne (by decide +kernel)
              refine go (B := T17.setTop (mkF m 121 #[.val (.int p1), .val (.int p2), .val (.int p3), .val (.int p4), .val (.int p5), .val (.int p6), .val (.ref b1), .val (.int (1 : Int32)), .val (.int (p5 &&& (3 : Int32))), .val (.int p2)] [])) (fun _ k => XS.icmpNo X17.here hx rfl (hb hby at_118) rfl (teq hc118).2 k) ?_
              refine go (B := T17.setTop (mkF m 122 #[.val (.int p1), .val (.int p2), .val (.int p3), .val (.int p4), .val (.int p5), .val (.int p6), .val (.ref b1), .val (.int (1 : Int32)), .val (.int (p5 &&& (3 : Int32))), .val (.int p2)] [(.int (1 : Int32))])) (fun _ k => XS.iconst X17.here hx rfl (hb hby at_121) k) ?_
              refine go (B := T17.setTop (mkF m 126 #[.val (.int p1), .val (.int p2), .val (.int p3), .val (.int p4), .val (.int p5), .val (.int p6), .val (.ref b1), .val (.int (1 : Int32)), .val (.int (p5 &&& (3 : Int32))), .val (.int p2)] [(.int (1 : Int32))])) (fun _ k => XS.goto X17.here hx rfl (pc0 := 122) (pc' := 126) rfl (hb hby at_122) (by decide) (by decide) k) ?_
              refine go (B := T17.setTop (mkF m 128 #[.val (.int p1), .val (.int p2), .val (.int p3), .val (.int p4), .val (.int p5), .val (.int p6), .val (.ref b1), .val (.int (1 : Int32)), .val (.int (p5 &&& (3 : Int32))), .val (.int p2)] [])) (fun _ k => XS.istore X17.here hx rfl (hb hby at_126) rfl (l' := #[.val (.int p1), .val (.int p2), .val (.int p3), .val (.int p4), .val (.int p5), .val (.int p6), .val (.ref b1), .val (.int (1 : Int32)), .val (.int (p5 &&& (3 : Int32))), .val (.int p2)]) rfl k) ?_
              refine go (B := T17.setTop (mkF m 130 #[.val (.int p1), .val (.int p2), .val (.int p3), .val (.int p4), .val (.int p5), .val (.int p6), .val (.ref b1), .val (.int (1 : Int32)), .val (.int (p5 &&& (3 : Int32))), .val (.int p2)] [(.int p6)])) (fun _ k => XS.iload X17.here hx rfl (hb hby at_128) rfl k) ?_
              refine go (B := T17.setTop (mkF m 131 #[.val (.int p1), .val (.int p2), .val (.int p3), .val (.int p4), .val (.int p5), .val (.int p6), .val (.ref b1), .val (.int (1 : Int32)), .val (.int (p5 &&& (3 : Int32))), .val (.int p2)] [(.int (1 : Int32)), (.int p6)])) (fun _ k => XS.iconst X17.here hx rfl (hb hby at_130) k) ?_
              refine go (B := T17.setTop (mkF m 132 #[.val (.int p1), .val (.int p2), .val (.int p3), .val (.int p4), .val (.int p5), .val (.int p6), .val (.ref b1), .val (.int (1 : Int32)), .val (.int (p5 &&& (3 : Int32))), .val (.int p2)] [(.int (p6 &&& (1 : Int32)))])) (fun _ k => XS.iand X17.here hx rfl (hb hby at_131) rfl k) ?_
              by_cases hc132 : (p6 &&& (1 : Int32)) = (0 : Int32)
              · refine go (B := T17.setTop (mkF m 190 #[.val (.int p1), .val (.int p2), .val (.int p3), .val (.int p4), .val (.int p5), .val (.int p6), .val (.ref b1), .val (.int (1 : Int32)), .val (.int (p5 &&& (3 : Int32))), .val (.int p2)] [])) (fun _ k => XS.ifYes X17.here hx rfl (pc0 := 132) (pc' := 190) rfl (hb hby at_132) rfl ((if0 _ _).trans (teq hc132).1) (by decide) (by decide) k) ?_
                refine go (B := T17.setTop (mkF m 192 #[.val (.int p1), .val (.int p2), .val (.int p3), .val (.int p4), .val (.int p5), .val (.int p6), .val (.ref b1), .val (.int (1 : Int32)), .val (.int (p5 &&& (3 : Int32))), .val (.int p2)] [(.int (1 : Int32))])) (fun _ k => XS.iload X17.here hx rfl (hb hby at_190) rfl k) ?_
                refine goRetN X17 hx (t := .boolean) Bd.returns (by simp) hlk (hb hby at_192) ?_ (by decide) (by decide)
                rw [e17]
                exact ⟨rfl, N17⟩
              · refine go (B := T17.setTop (mkF m 135 #[.val (.int p1), .val (.int p2), .val (.int p3), .val (.int p4), .val (.int p5), .val (.int p6), .val (.ref b1), .val (.int (1 : Int32)), .val (.int (p5 &&& (3 : Int32))), .val (.int p2)] [])) (fun _ k => XS.ifNo X17.here hx rfl (hb hby at_132) rfl ((if0 _ _).trans (feq hc132).1) k) ?_
                refine go (B := T17.setTop (mkF m 137 #[.val (.int p1), .val (.int p2), .val (.int p3), .val (.int p4), .val (.int p5), .val (.int p6), .val (.ref b1), .val (.int (1 : Int32)), .val (.int (p5 &&& (3 : Int32))), .val (.int p2)] [(.ref b1)])) (fun _ k => XS.aload X17.here hx rfl (hb hby at_135) rfl rfl k) ?_
                refine go (B := T17.setTop (mkF m 138 #[.val (.int p1), .val (.int p2), .val (.int p3), .val (.int p4), .val (.int p5), .val (.int p6), .val (.ref b1), .val (.int (1 : Int32)), .val (.int (p5 &&& (3 : Int32))), .val (.int p2)] [(.int (3 : Int32)), (.ref b1)])) (fun _ k => XS.iconst X17.here hx rfl (hb hby at_137) k) ?_
                refine go (B := T17.setTop (mkF m 139 #[.val (.int p1), .val (.int p2), .val (.int p3), .val (.int p4), .val (.int p5), .val (.int p6), .val (.ref b1), .val (.int (1 : Int32)), .val (.int (p5 &&& (3 : Int32))), .val (.int p2)] [(.int (0 : Int32)), (.int (3 : Int32)), (.ref b1)])) (fun _ k => XS.iconst X17.here hx rfl (hb hby at_138) k) ?_
                refine go (B := T17.setTop (mkF m 140 #[.val (.int p1), .val (.int p2), .val (.int p3), .val (.int p4), .val (.int p5), .val (.int p6), .val (.ref b1), .val (.int (1 : Int32)), .val (.int (p5 &&& (3 : Int32))), .val (.int p2)] [(.int (0 : Int32)), (.int (0 : Int32)), (.int (3 : Int32)), (.ref b1)])) (fun _ k => XS.iconst X17.here hx rfl (hb hby at_139) k) ?_
                obtain ⟨cq18, kq18, q18a, q18b, q18c⟩ := isOf hZ e17 R16.1
                obtain ⟨_, _, ⟨T18, L18, k18, n18⟩, -, X18, ⟨Lc18, hQ18, l18, y18, z18⟩, st18⟩ := X17.virtualBack hx (y := (⟨"com/example/zonecast/zonecast/RecordValues", "clear", "(III)V"⟩ : MethodName)) (z := (⟨"com/example/zonecast/zonecast/RecordValues", "clear", "(III)V"⟩ : MethodName)) hown (mvT hZ (hw _ (List.mem_of_getElem? (i := 24) rfl))) (mvT hZ (hw _ (List.mem_of_getElem? (i := 25) rfl))) (notFace_of_selects (args := #[]) (mvT hZ (hw _ (List.mem_of_getElem? (i := 27) rfl)))) (mvT hZ (hw _ (List.mem_of_getElem? (i := 27) rfl))) (mvT hZ (hw _ (List.mem_of_getElem? (i := 26) rfl))) (by decide) (backOf (W := 0) (rm4 l Z a0 hw [] b1 (3 : Int32) (0 : Int32) (0 : Int32) t4 en4 dg4 (((0 : Int32) + (1 : Int32)) + (1 : Int32)) (mx (0 : Int32) (0 : Int32)) (mx (0 : Int32) (3 : Int32)) (mx (0 : Int32) (0 : Int32)) p2 T16.heap n0 Zr16 R16 (by decide +kernel) (by decide +kernel) (by decide +kernel) (by decide +kernel) (by decide +kernel) (by decide +kernel)) hZ (hw _ (List.mem_of_getElem? (i := 28) rfl)) (hw _ (List.mem_of_getElem? (i := 2) rfl)) (by decide) (by decide)) q18a q18c (g := (mkF m 140 #[.val (.int p1), .val (.int p2), .val (.int p3), .val (.int p4), .val (.int p5), .val (.int p6), .val (.ref b1), .val (.int (1 : Int32)), .val (.int (p5 &&& (3 : Int32))), .val (.int p2)] [(.int (0 : Int32)), (.int (0 : Int32)), (.int (3 : Int32)), (.ref b1)])) rfl (by rw [hml]; rfl) (Steps.refl _) (argsL := [(.int (3 : Int32)), (.int (0 : Int32)), (.int (0 : Int32))]) (rest := []) (lenOf pd__III_V rfl) rfl (by show 2 * 0 + _ ≤ _; exact Nat.le_of_eq rfl) (hb hby at_140) (fun _ _ => ⟨rfl, e17, (by decide : 7 + 3 ≤ _), (by decide : 41 + 37 ≤ _)⟩)
                dsimp only [Pt.U, Pt.locs, Pt.cells, Pt.slots] at X18 l18 y18 z18 st18 hQ18
                subst l18 y18 z18
                obtain ⟨rfl, N18q, t18, en18, dg18, x18, R18, hT18, hD18, ⟨kt18, vt18, Vt18⟩, ⟨kd18, vd18, Vd18⟩⟩ := hQ18
                have N18 := Fr.app N17 N18q
                have Zr18 := R18.2.2.2.2.2.2.2.2.2.2.2.2.2.2.2
                refine go (B := T18.setTop (mkF m 143 #[.val (.int p1), .val (.int p2), .val (.int p3), .val (.int p4), .val (.int p5), .val (.int p6), .val (.ref b1), .val (.int (1 : Int32)), .val (.int (p5 &&& (3 : Int32))), .val (.int p2)] [])) (fun _ k => st18.trans k) ?_
                refine go (B := T18.setTop (mkF m 145 #[.val (.int p1), .val (.int p2), .val (.int p3), .val (.int p4), .val (.int p5), .val (.int p6), .val (.ref b1), .val (.int (1 : Int32)), .val (.int (p5 &&& (3 : Int32))), .val (.int p2)] [(.int (1 : Int32))])) (fun _ k => XS.iload X18.here hx rfl (hb hby at_143) rfl k) ?_
                have hc145 : ¬ ((1 : Int32) = (0 : Int32)) := by decide
                refine go (B := T18.setTop (mkF m 148 #[.val (.int p1), .val (.int p2), .val (.int p3), .val (.int p4), .val (.int p5), .val (.int p6), .val (.ref b1), .val (.int (1 : Int32)), .val (.int (p5 &&& (3 : Int32))), .val (.int p2)] [])) (fun _ k => XS.ifNo X18.here hx rfl (hb hby at_145) rfl ((if0 _ _).trans (feq hc145).1) k) ?_
                refine go (B := T18.setTop (mkF m 150 #[.val (.int p1), .val (.int p2), .val (.int p3), .val (.int p4), .val (.int p5), .val (.int p6), .val (.ref b1), .val (.int (1 : Int32)), .val (.int (p5 &&& (3 : Int32))), .val (.int p2)] [(.ref b1)])) (fun _ k => XS.aload X18.here hx rfl (hb hby at_148) rfl rfl k) ?_
                obtain ⟨cq19, kq19, q19a, q19b, q19c⟩ := isOf hZ rfl R18.1
                obtain ⟨_, _, ⟨T19, L19, k19, n19⟩, -, X19, ⟨Lc19, hQ19, l19, y19, z19⟩, st19⟩ := X18.virtualBack hx (y := (⟨"com/example/zonecast/zonecast/RecordValues", "next", "()I"⟩ : MethodName)) (z := (⟨"com/example/zonecast/zonecast/RecordValues", "next", "()I"⟩ : MethodName)) hown (mvT hZ (hw _ (List.mem_of_getElem? (i := 17) rfl))) (mvT hZ (hw _ (List.mem_of_getElem? (i := 18) rfl))) (notFace_of_selects (args := #[]) (mvT hZ (hw _ (List.mem_of_getElem? (i := 20) rfl)))) (mvT hZ (hw _ (List.mem_of_getElem? (i := 20) rfl))) (mvT hZ (hw _ (List.mem_of_getElem? (i := 19) rfl))) (by decide) (backOf (W := 0) (rm3 l Z a0 hw [] b1 t18 en18 dg18 (0 : Int32) (mx (mx (0 : Int32) (0 : Int32)) (0 : Int32)) (mx (mx (0 : Int32) (3 : Int32)) (3 : Int32)) (mx (mx (0 : Int32) (0 : Int32)) (0 : Int32)) x18 T18.heap n0 Zr18 R18 (by decide +kernel) (by decide +kernel)) hZ (hw _ (List.mem_of_getElem? (i := 21) rfl)) (hw _ (List.mem_of_getElem? (i := 2) rfl)) (by decide) (by decide)) q19a q19c (g := (mkF m 150 #[.val (.int p1), .val (.int p2), .val (.int p3), .val (.int p4), .val (.int p5), .val (.int p6), .val (.ref b1), .val (.int (1 : Int32)), .val (.int (p5 &&& (3 : Int32))), .val (.int p2)] [(.ref b1)])) rfl (by rw [hml]; rfl) (Steps.refl _) (argsL := []) (rest := []) (lenOf pd___I rfl) rfl (by show 2 * 0 + _ ≤ _; exact Nat.le_of_eq rfl) (hb hby at_150) (fun _ _ => ⟨rfl, rfl, (by decide : 10 + 0 ≤ _), (by decide : 78 + 0 ≤ _)⟩)
                dsimp only [Pt.U, Pt.locs, Pt.cells, Pt.slots] at X19 l19 y19 z19 st19 hQ19
                subst l19 y19 z19
                obtain ⟨rfl, N19q, e19⟩ := hQ19
                have N19 := Fr.app N18 N19q
                refine go (B := T19.setTop (mkF m 153 #[.val (.int p1), .val (.int p2), .val (.int p3), .val (.int p4), .val (.int p5), .val (.int p6), .val (.ref b1), .val (.int (1 : Int32)), .val (.int (p5 &&& (3 : Int32))), .val (.int p2)] [(.int (fNext (0 : Int32) x18))])) (fun _ k => st19.trans k) ?_
                have hc153 : (fNext (0 : Int32) x18) = (0 : Int32) := rfl
                refine go (B := T19.setTop (mkF m 156 #[.val (.int p1), .val (.int p2), .val (.int p3), .val (.int p4), .val (.int p5), .val (.int p6), .val (.ref b1), .val (.int (1 : Int32)), .val (.int (p5 &&& (3 : Int32))), .val (.int p2)] [])) (fun _ k => XS.ifNo X19.here hx rfl (hb hby at_153) rfl ((if0 _ _).trans (teq hc153).2) k) ?_
                refine go (B := T19.setTop (mkF m 157 #[.val (.int p1), .val (.int p2), .val (.int p3), .val (.int p4), .val (.int p5), .val (.int p6), .val (.ref b1), .val (.int (1 : Int32)), .val (.int (p5 &&& (3 : Int32))), .val (.int p2)] [(.int (1 : Int32))])) (fun _ k => XS.iconst X19.here hx rfl (hb hby at_156) k) ?_
                refine go (B := T19.setTop (mkF m 161 #[.val (.int p1), .val (.int p2), .val (.int p3), .val (.int p4), .val (.int p5), .val (.int p6), .val (.ref b1), .val (.int (1 : Int32)), .val (.int (p5 &&& (3 : Int32))), .val (.int p2)] [(.int (1 : Int32))])) (fun _ k => XS.goto X19.here hx rfl (pc0 := 157) (pc' := 161) rfl (hb hby at_157) (by decide) (by decide) k) ?_
                refine go (B := T19.setTop (mkF m 163 #[.val (.int p1), .val (.int p2), .val (.int p3), .val (.int p4), .val (.int p5), .val (.int p6), .val (.ref b1), .val (.int (1 : Int32)), .val (.int (p5 &&& (3 : Int32))), .val (.int p2)] [])) (fun _ k => XS.istore X19.here hx rfl (hb hby at_161) rfl (l' := #[.val (.int p1), .val (.int p2), .val (.int p3), .val (.int p4), .val (.int p5), .val (.int p6), .val (.ref b1), .val (.int (1 : Int32)), .val (.int (p5 &&& (3 : Int32))), .val (.int p2)]) rfl k) ?_
                refine go (B := T19.setTop (mkF m 165 #[.val (.int p1), .val (.int p2), .val (.int p3), .val (.int p4), .val (.int p5), .val (.int p6), .val (.ref b1), .val (.int (1 : Int32)), .val (.int (p5 &&& (3 : Int32))), .val (.int p2)] [(.ref b1)])) (fun _ k => XS.aload X19.here hx rfl (hb hby at_163) rfl rfl k) ?_
                refine go (B := T19.setTop (mkF m 166 #[.val (.int p1), .val (.int p2), .val (.int p3), .val (.int p4), .val (.int p5), .val (.int p6), .val (.ref b1), .val (.int (1 : Int32)), .val (.int (p5 &&& (3 : Int32))), .val (.int p2)] [(.int p4), (.ref b1)])) (fun _ k => XS.iloadN X19.here hx rfl (hb hby at_165) rfl k) ?_
                obtain ⟨cq20, kq20, q20a, q20b, q20c⟩ := isOf hZ e19 R18.1
                obtain ⟨_, _, ⟨T20, L20, k20, n20⟩, -, X20, ⟨Lc20, hQ20, l20, y20, z20⟩, st20⟩ := X19.virtualBack hx (y := (⟨"com/example/zonecast/zonecast/RecordValues", "add", "(I)V"⟩ : MethodName)) (z := (⟨"com/example/zonecast/zonecast/RecordValues", "add", "(I)V"⟩ : MethodName)) hown (mvT hZ (hw _ (List.mem_of_getElem? (i := 29) rfl))) (mvT hZ (hw _ (List.mem_of_getElem? (i := 30) rfl))) (notFace_of_selects (args := #[]) (mvT hZ (hw _ (List.mem_of_getElem? (i := 32) rfl)))) (mvT hZ (hw _ (List.mem_of_getElem? (i := 32) rfl))) (mvT hZ (hw _ (List.mem_of_getElem? (i := 31) rfl))) (by decide) (backOf (W := 0) (rm5 l Z a0 hw [] b1 p4 t18 en18 dg18 (0 : Int32) (mx (mx (0 : Int32) (0 : Int32)) (0 : Int32)) (mx (mx (0 : Int32) (3 : Int32)) (3 : Int32)) (mx (mx (0 : Int32) (0 : Int32)) (0 : Int32)) x18 T18.heap n0 Zr18 R18 (by decide +kernel) (by decide +kernel)) hZ (hw _ (List.mem_of_getElem? (i := 33) rfl)) (hw _ (List.mem_of_getElem? (i := 2) rfl)) (by decide) (by decide)) q20a q20c (g := (mkF m 166 #[.val (.int p1), .val (.int p2), .val (.int p3), .val (.int p4), .val (.int p5), .val (.int p6), .val (.ref b1), .val (.int (1 : Int32)), .val (.int (p5 &&& (3 : Int32))), .val (.int p2)] [(.int p4), (.ref b1)])) rfl (by rw [hml]; rfl) (Steps.refl _) (argsL := [(.int p4)]) (rest := []) (lenOf pd__I_V rfl) rfl (by show 2 * 0 + _ ≤ _; exact Nat.le_of_eq rfl) (hb hby at_166) (fun _ _ => ⟨rfl, e19, (by decide : 10 + 0 ≤ _), (by decide : 78 + 0 ≤ _)⟩)
                dsimp only [Pt.U, Pt.locs, Pt.cells, Pt.slots] at X20 l20 y20 z20 st20 hQ20
                subst l20 y20 z20
                obtain ⟨rfl, N20q, R20⟩ := hQ20
                have N20 := Fr.app N19 N20q
                have Zr20 := R20.2.2.2.2.2.2.2.2.2.2.2.2.2.2.2
                refine go (B := T20.setTop (mkF m 169 #[.val (.int p1), .val (.int p2), .val (.int p3), .val (.int p4), .val (.int p5), .val (.int p6), .val (.ref b1), .val (.int (1 : Int32)), .val (.int (p5 &&& (3 : Int32))), .val (.int p2)] [])) (fun _ k => st20.trans k) ?_
                refine go (B := T20.setTop (mkF m 171 #[.val (.int p1), .val (.int p2), .val (.int p3), .val (.int p4), .val (.int p5), .val (.int p6), .val (.ref b1), .val (.int (1 : Int32)), .val (.int (p5 &&& (3 : Int32))), .val (.int p2)] [(.int (1 : Int32))])) (fun _ k => XS.iload X20.here hx rfl (hb hby at_169) rfl k) ?_
                have hc171 : ¬ ((1 : Int32) = (0 : Int32)) := by decide
                refine go (B := T20.setTop (mkF m 174 #[.val (.int p1), .val (.int p2), .val (.int p3), .val (.int p4), .val (.int p5), .val (.int p6), .val (.ref b1), .val (.int (1 : Int32)), .val (.int (p5 &&& (3 : Int32))), .val (.int p2)] [])) (fun _ k => XS.ifNo X20.here hx rfl (hb hby at_171) rfl ((if0 _ _).trans (feq hc171).1) k) ?_
                refine go (B := T20.setTop (mkF m 176 #[.val (.int p1), .val (.int p2), .val (.int p3), .val (.int p4), .val (.int p5), .val (.int p6), .val (.ref b1), .val (.int (1 : Int32)), .val (.int (p5 &&& (3 : Int32))), .val (.int p2)] [(.ref b1)])) (fun _ k => XS.aload X20.here hx rfl (hb hby at_174) rfl rfl k) ?_
                obtain ⟨cq21, kq21, q21a, q21b, q21c⟩ := isOf hZ rfl R20.1
                obtain ⟨_, _, ⟨T21, L21, k21, n21⟩, -, X21, ⟨Lc21, hQ21, l21, y21, z21⟩, st21⟩ := X20.virtualBack hx (y := (⟨"com/example/zonecast/zonecast/RecordValues", "next", "()I"⟩ : MethodName)) (z := (⟨"com/example/zonecast/zonecast/RecordValues", "next", "()I"⟩ : MethodName)) hown (mvT hZ (hw _ (List.mem_of_getElem? (i := 17) rfl))) (mvT hZ (hw _ (List.mem_of_getElem? (i := 18) rfl))) (notFace_of_selects (args := #[]) (mvT hZ (hw _ (List.mem_of_getElem? (i := 20) rfl)))) (mvT hZ (hw _ (List.mem_of_getElem? (i := 20) rfl))) (mvT hZ (hw _ (List.mem_of_getElem? (i := 19) rfl))) (by decide) (backOf (W := 0) (rm3 l Z a0 hw [] b1 t18 en18 dg18 ((0 : Int32) + (1 : Int32)) (mx (mx (0 : Int32) (0 : Int32)) (0 : Int32)) (mx (mx (0 : Int32) (3 : Int32)) (3 : Int32)) (mx (mx (0 : Int32) (0 : Int32)) (0 : Int32)) p4 T20.heap n0 Zr20 R20 (by decide +kernel) (by decide +kernel)) hZ (hw _ (List.mem_of_getElem? (i := 21) rfl)) (hw _ (List.mem_of_getElem? (i := 2) rfl)) (by decide) (by decide)) q21a q21c (g := (mkF m 176 #[.val (.int p1), .val (.int p2), .val (.int p3), .val (.int p4), .val (.int p5), .val (.int p6), .val (.ref b1), .val (.int (1 : Int32)), .val (.int (p5 &&& (3 : Int32))), .val (.int p2)] [(.ref b1)])) rfl (by rw [hml]; rfl) (Steps.refl _) (argsL := []) (rest := []) (lenOf pd___I rfl) rfl (by show 2 * 0 + _ ≤ _; exact Nat.le_of_eq rfl) (hb hby at_176) (fun _ _ => ⟨rfl, rfl, (by decide : 10 + 0 ≤ _), (by decide : 78 + 0 ≤ _)⟩)
                dsimp only [Pt.U, Pt.locs, Pt.cells, Pt.slots] at X21 l21 y21 z21 st21 hQ21
                subst l21 y21 z21
                obtain ⟨rfl, N21q, e21⟩ := hQ21
                have N21 := Fr.app N20 N21q
                refine go (B := T21.setTop (mkF m 179 #[.val (.int p1), .val (.int p2), .val (.int p3), .val (.int p4), .val (.int p5), .val (.int p6), .val (.ref b1), .val (.int (1 : Int32)), .val (.int (p5 &&& (3 : Int32))), .val (.int p2)] [(.int (fNext ((0 : Int32) + (1 : Int32)) p4))])) (fun _ k => st21.trans k) ?_
                refine go (B := T21.setTop (mkF m 180 #[.val (.int p1), .val (.int p2), .val (.int p3), .val (.int p4), .val (.int p5), .val (.int p6), .val (.ref b1), .val (.int (1 : Int32)), .val (.int (p5 &&& (3 : Int32))), .val (.int p2)] [(.int p4), (.int (fNext ((0 : Int32) + (1 : Int32)) p4))])) (fun _ k => XS.iloadN X21.here hx rfl (hb hby at_179) rfl k) ?_
                have hc180 : (fNext ((0 : Int32) + (1 : Int32)) p4) = p4 := fNext_ne (by decide +kernel)
                refine go (B := T21.setTop (mkF m 183 #[.val (.int p1), .val (.int p2), .val (.int p3), .val (.int p4), .val (.int p5), .val (.int p6), .val (.ref b1), .val (.int (1 : Int32)), .val (.int (p5 &&& (3 : Int32))), .val (.int p2)] [])) (fun _ k => XS.icmpNo X21.here hx rfl (hb hby at_180) rfl (teq hc180).2 k) ?_
                refine go (B := T21.setTop (mkF m 184 #[.val (.int p1), .val (.int p2), .val (.int p3), .val (.int p4), .val (.int p5), .val (.int p6), .val (.ref b1), .val (.int (1 : Int32)), .val (.int (p5 &&& (3 : Int32))), .val (.int p2)] [(.int (1 : Int32))])) (fun _ k => XS.iconst X21.here hx rfl (hb hby at_183) k) ?_
                refine go (B := T21.setTop (mkF m 188 #[.val (.int p1), .val (.int p2), .val (.int p3), .val (.int p4), .val (.int p5), .val (.int p6), .val (.ref b1), .val (.int (1 : Int32)), .val (.int (p5 &&& (3 : Int32))), .val (.int p2)] [(.int (1 : Int32))])) (fun _ k => XS.goto X21.here hx rfl (pc0 := 184) (pc' := 188) rfl (hb hby at_184) (by decide) (by decide) k) ?_
                refine go (B := T21.setTop (mkF m 190 #[.val (.int p1), .val (.int p2), .val (.int p3), .val (.int p4), .val (.int p5), .val (.int p6), .val (.ref b1), .val (.int (1 : Int32)), .val (.int (p5 &&& (3 : Int32))), .val (.int p2)] [])) (fun _ k => XS.istore X21.here hx rfl (hb hby at_188) rfl (l' := #[.val (.int p1), .val (.int p2), .val (.int p3), .val (.int p4), .val (.int p5), .val (.int p6), .val (.ref b1), .val (.int (1 : Int32)), .val (.int (p5 &&& (3 : Int32))), .val (.int p2)]) rfl k) ?_
                refine go (B := T21.setTop (mkF m 192 #[.val (.int p1), .val (.int p2), .val (.int p3), .val (.int p4), .val (.int p5), .val (.int p6), .val (.ref b1), .val (.int (1 : Int32)), .val (.int (p5 &&& (3 : Int32))), .val (.int p2)] [(.int (1 : Int32))])) (fun _ k => XS.iload X21.here hx rfl (hb hby at_190) rfl k) ?_
                refine goRetN X21 hx (t := .boolean) Bd.returns (by simp) hlk (hb hby at_192) ?_ (by decide) (by decide)
                rw [e21]
                exact ⟨rfl, N21⟩
            · exfalso
              have kq := k_in p5
              simp only [Int32.lt_iff_toInt_lt, Int64.lt_iff_toInt_lt, ← Int32.toInt_inj, ← Int64.toInt_inj, Int32.reduceToInt, Int64.reduceToInt] at hc41 hc53 hc65 hc76 hc86 hc96
              omega
      · refine go (B := T16.setTop (mkF m 68 #[.val (.int p1), .val (.int p2), .val (.int p3), .val (.int p4), .val (.int p5), .val (.int p6), .val (.ref b1), .val (.int (1 : Int32)), .val (.int (p5 &&& (3 : Int32))), .unset] [])) (fun _ k => XS.icmpNo X16.here hx rfl (hb hby at_65) rfl (flt hc65).1 k) ?_
        refine go (B := T16.setTop (mkF m 70 #[.val (.int p1), .val (.int p2), .val (.int p3), .val (.int p4), .val (.int p5), .val (.int p6), .val (.ref b1), .val (.int (1 : Int32)), .val (.int (p5 &&& (3 : Int32))), .unset] [(.ref b1)])) (fun _ k => XS.aload X16.here hx rfl (hb hby at_68) rfl rfl k) ?_
        refine go (B := T16.setTop (mkF m 71 #[.val (.int p1), .val (.int p2), .val (.int p3), .val (.int p4), .val (.int p5), .val (.int p6), .val (.ref b1), .val (.int (1 : Int32)), .val (.int (p5 &&& (3 : Int32))), .unset] [(.int p3), (.ref b1)])) (fun _ k => XS.iloadN X16.here hx rfl (hb hby at_70) rfl k) ?_
        obtain ⟨cq22, kq22, q22a, q22b, q22c⟩ := isOf hZ rfl R16.1
        obtain ⟨_, _, ⟨T22, L22, k22, n22⟩, -, X22, ⟨Lc22, hQ22, l22, y22, z22⟩, st22⟩ := X16.virtualBack hx (y := (⟨"com/example/zonecast/zonecast/RecordValues", "add", "(I)V"⟩ : MethodName)) (z := (⟨"com/example/zonecast/zonecast/RecordValues", "add", "(I)V"⟩ : MethodName)) hown (mvT hZ (hw _ (List.mem_of_getElem? (i := 29) rfl))) (mvT hZ (hw _ (List.mem_of_getElem? (i := 30) rfl))) (notFace_of_selects (args := #[]) (mvT hZ (hw _ (List.mem_of_getElem? (i := 32) rfl)))) (mvT hZ (hw _ (List.mem_of_getElem? (i := 32) rfl))) (mvT hZ (hw _ (List.mem_of_getElem? (i := 31) rfl))) (by decide) (backOf (W := 0) (rm5 l Z a0 hw [] b1 p3 t4 en4 dg4 (((0 : Int32) + (1 : Int32)) + (1 : Int32)) (mx (0 : Int32) (0 : Int32)) (mx (0 : Int32) (3 : Int32)) (mx (0 : Int32) (0 : Int32)) p2 T16.heap n0 Zr16 R16 (by decide +kernel) (by decide +kernel)) hZ (hw _ (List.mem_of_getElem? (i := 33) rfl)) (hw _ (List.mem_of_getElem? (i := 2) rfl)) (by decide) (by decide)) q22a q22c (g := (mkF m 71 #[.val (.int p1), .val (.int p2), .val (.int p3), .val (.int p4), .val (.int p5), .val (.int p6), .val (.ref b1), .val (.int (1 : Int32)), .val (.int (p5 &&& (3 : Int32))), .unset] [(.int p3), (.ref b1)])) rfl (by rw [hml]; rfl) (Steps.refl _) (argsL := [(.int p3)]) (rest := []) (lenOf pd__I_V rfl) rfl (by show 2 * 0 + _ ≤ _; exact Nat.le_of_eq rfl) (hb hby at_71) (fun _ _ => ⟨rfl, rfl, (by decide : 7 + 0 ≤ _), (by decide : 41 + 0 ≤ _)⟩)
        dsimp only [Pt.U, Pt.locs, Pt.cells, Pt.slots] at X22 l22 y22 z22 st22 hQ22
        subst l22 y22 z22
        obtain ⟨rfl, N22q, R22⟩ := hQ22
        have N22 := Fr.app N16 N22q
        have Zr22 := R22.2.2.2.2.2.2.2.2.2.2.2.2.2.2.2
        refine go (B := T22.setTop (mkF m 74 #[.val (.int p1), .val (.int p2), .val (.int p3), .val (.int p4), .val (.int p5), .val (.int p6), .val (.ref b1), .val (.int (1 : Int32)), .val (.int (p5 &&& (3 : Int32))), .unset] [])) (fun _ k => st22.trans k) ?_
        refine go (B := T22.setTop (mkF m 76 #[.val (.int p1), .val (.int p2), .val (.int p3), .val (.int p4), .val (.int p5), .val (.int p6), .val (.ref b1), .val (.int (1 : Int32)), .val (.int (p5 &&& (3 : Int32))), .unset] [(.int (p5 &&& (3 : Int32)))])) (fun _ k => XS.iload X22.here hx rfl (hb hby at_74) rfl k) ?_
        by_cases hc76 : (p5 &&& (3 : Int32)) = (0 : Int32)
        · exfalso
          have kq := k_in p5
          simp only [Int32.lt_iff_toInt_lt, Int64.lt_iff_toInt_lt, ← Int32.toInt_inj, ← Int64.toInt_inj, Int32.reduceToInt, Int64.reduceToInt] at hc41 hc53 hc65 hc76
          omega
        · refine go (B := T22.setTop (mkF m 83 #[.val (.int p1), .val (.int p2), .val (.int p3), .val (.int p4), .val (.int p5), .val (.int p6), .val (.ref b1), .val (.int (1 : Int32)), .val (.int (p5 &&& (3 : Int32))), .unset] [])) (fun _ k => XS.ifYes X22.here hx rfl (pc0 := 76) (pc' := 83) rfl (hb hby at_76) rfl ((if0 _ _).trans (feq hc76).2) (by decide) (by decide) k) ?_
          refine go (B := T22.setTop (mkF m 85 #[.val (.int p1), .val (.int p2), .val (.int p3), .val (.int p4), .val (.int p5), .val (.int p6), .val (.ref b1), .val (.int (1 : Int32)), .val (.int (p5 &&& (3 : Int32))), .unset] [(.int (p5 &&& (3 : Int32)))])) (fun _ k => XS.iload X22.here hx rfl (hb hby at_83) rfl k) ?_
          refine go (B := T22.setTop (mkF m 86 #[.val (.int p1), .val (.int p2), .val (.int p3), .val (.int p4), .val (.int p5), .val (.int p6), .val (.ref b1), .val (.int (1 : Int32)), .val (.int (p5 &&& (3 : Int32))), .unset] [(.int (1 : Int32)), (.int (p5 &&& (3 : Int32)))])) (fun _ k => XS.iconst X22.here hx rfl (hb hby at_85) k) ?_
          by_cases hc86 : (p5 &&& (3 : Int32)) = (1 : Int32)
          · exfalso
            have kq := k_in p5
            simp only [Int32.lt_iff_toInt_lt, Int64.lt_iff_toInt_lt, ← Int32.toInt_inj, ← Int64.toInt_inj, Int32.reduceToInt, Int64.reduceToInt] at hc41 hc53 hc65 hc76 hc86
            omega
          · refine go (B := T22.setTop (mkF m 93 #[.val (.int p1), .val (.int p2), .val (.int p3), .val (.int p4), .val (.int p5), .val (.int p6), .val (.ref b1), .val (.int (1 : Int32)), .val (.int (p5 &&& (3 : Int32))), .unset] [])) (fun _ k => XS.icmpYes X22.here hx rfl (pc0 := 86) (pc' := 93) rfl (hb hby at_86) rfl (feq hc86).2 (by decide) (by decide) k) ?_
            refine go (B := T22.setTop (mkF m 95 #[.val (.int p1), .val (.int p2), .val (.int p3), .val (.int p4), .val (.int p5), .val (.int p6), .val (.ref b1), .val (.int (1 : Int32)), .val (.int (p5 &&& (3 : Int32))), .unset] [(.int (p5 &&& (3 : Int32)))])) (fun _ k => XS.iload X22.here hx rfl (hb hby at_93) rfl k) ?_
            refine go (B := T22.setTop (mkF m 96 #[.val (.int p1), .val (.int p2), .val (.int p3), .val (.int p4), .val (.int p5), .val (.int p6), .val (.ref b1), .val (.int (1 : Int32)), .val (.int (p5 &&& (3 : Int32))), .unset] [(.int (2 : Int32)), (.int (p5 &&& (3 : Int32)))])) (fun _ k => XS.iconst X22.here hx rfl (hb hby at_95) k) ?_
            by_cases hc96 : (p5 &&& (3 : Int32)) = (2 : Int32)
            · exfalso
              have kq := k_in p5
              simp only [Int32.lt_iff_toInt_lt, Int64.lt_iff_toInt_lt, ← Int32.toInt_inj, ← Int64.toInt_inj, Int32.reduceToInt, Int64.reduceToInt] at hc41 hc53 hc65 hc76 hc86 hc96
              omega
            · refine go (B := T22.setTop (mkF m 103 #[.val (.int p1), .val (.int p2), .val (.int p3), .val (.int p4), .val (.int p5), .val (.int p6), .val (.ref b1), .val (.int (1 : Int32)), .val (.int (p5 &&& (3 : Int32))), .unset] [])) (fun _ k => XS.icmpYes X22.here hx rfl (pc0 := 96) (pc' := 103) rfl (hb hby at_96) rfl (feq hc96).2 (by decide) (by decide) k) ?_
              refine go (B := T22.setTop (mkF m 104 #[.val (.int p1), .val (.int p2), .val (.int p3), .val (.int p4), .val (.int p5), .val (.int p6), .val (.ref b1), .val (.int (1 : Int32)), .val (.int (p5 &&& (3 : Int32))), .unset] [(.int p3)])) (fun _ k => XS.iloadN X22.here hx rfl (hb hby at_103) rfl k) ?_
              refine go (B := T22.setTop (mkF m 106 #[.val (.int p1), .val (.int p2), .val (.int p3), .val (.int p4), .val (.int p5), .val (.int p6), .val (.ref b1), .val (.int (1 : Int32)), .val (.int (p5 &&& (3 : Int32))), .val (.int p3)] [])) (fun _ k => XS.istore X22.here hx rfl (hb hby at_104) rfl (l' := #[.val (.int p1), .val (.int p2), .val (.int p3), .val (.int p4), .val (.int p5), .val (.int p6), .val (.ref b1), .val (.int (1 : Int32)), .val (.int (p5 &&& (3 : Int32))), .val (.int p3)]) rfl k) ?_
              refine go (B := T22.setTop (mkF m 108 #[.val (.int p1), .val (.int p2), .val (.int p3), .val (.int p4), .val (.int p5), .val (.int p6), .val (.ref b1), .val (.int (1 : Int32)), .val (.int (p5 &&& (3 : Int32))), .val (.int p3)] [(.int (1 : Int32))])) (fun _ k => XS.iload X22.here hx rfl (hb hby at_106) rfl k) ?_
              have hc108 : ¬ ((1 : Int32) = (0 : Int32)) := by decide
              refine go (B := T22.setTop (mkF m 111 #[.val (.int p1), .val (.int p2), .val (.int p3), .val (.int p4), .val (.int p5), .val (.int p6), .val (.ref b1), .val (.int (1 : Int32)), .val (.int (p5 &&& (3 : Int32))), .val (.int p3)] [])) (fun _ k => XS.ifNo X22.here hx rfl (hb hby at_108) rfl ((if0 _ _).trans (feq hc108).1) k) ?_
              refine go (B := T22.setTop (mkF m 113 #[.val (.int p1), .val (.int p2), .val (.int p3), .val (.int p4), .val (.int p5), .val (.int p6), .val (.ref b1), .val (.int (1 : Int32)), .val (.int (p5 &&& (3 : Int32))), .val (.int p3)] [(.ref b1)])) (fun _ k => XS.aload X22.here hx rfl (hb hby at_111) rfl rfl k) ?_
              obtain ⟨cq23, kq23, q23a, q23b, q23c⟩ := isOf hZ rfl R22.1
              obtain ⟨_, _, ⟨T23, L23, k23, n23⟩, -, X23, ⟨Lc23, hQ23, l23, y23, z23⟩, st23⟩ := X22.virtualBack hx (y := (⟨"com/example/zonecast/zonecast/RecordValues", "next", "()I"⟩ : MethodName)) (z := (⟨"com/example/zonecast/zonecast/RecordValues", "next", "()I"⟩ : MethodName)) hown (mvT hZ (hw _ (List.mem_of_getElem? (i := 17) rfl))) (mvT hZ (hw _ (List.mem_of_getElem? (i := 18) rfl))) (notFace_of_selects (args := #[]) (mvT hZ (hw _ (List.mem_of_getElem? (i := 20) rfl)))) (mvT hZ (hw _ (List.mem_of_getElem? (i := 20) rfl))) (mvT hZ (hw _ (List.mem_of_getElem? (i := 19) rfl))) (by decide) (backOf (W := 0) (rm3 l Z a0 hw [] b1 t4 en4 dg4 ((((0 : Int32) + (1 : Int32)) + (1 : Int32)) + (1 : Int32)) (mx (0 : Int32) (0 : Int32)) (mx (0 : Int32) (3 : Int32)) (mx (0 : Int32) (0 : Int32)) p3 T22.heap n0 Zr22 R22 (by decide +kernel) (by decide +kernel)) hZ (hw _ (List.mem_of_getElem? (i := 21) rfl)) (hw _ (List.mem_of_getElem? (i := 2) rfl)) (by decide) (by decide)) q23a q23c (g := (mkF m 113 #[.val (.int p1), .val (.int p2), .val (.int p3), .val (.int p4), .val (.int p5), .val (.int p6), .val (.ref b1), .val (.int (1 : Int32)), .val (.int (p5 &&& (3 : Int32))), .val (.int p3)] [(.ref b1)])) rfl (by rw [hml]; rfl) (Steps.refl _) (argsL := []) (rest := []) (lenOf pd___I rfl) rfl (by show 2 * 0 + _ ≤ _; exact Nat.le_of_eq rfl) (hb hby at_113) (fun _ _ => ⟨rfl, rfl, (by decide : 7 + 0 ≤ _), (by decide : 41 + 0 ≤ _)⟩)
              dsimp only [Pt.U, Pt.locs, Pt.cells, Pt.slots] at X23 l23 y23 z23 st23 hQ23
              subst l23 y23 z23
              obtain ⟨rfl, N23q, e23⟩ := hQ23
              have N23 := Fr.app N22 N23q
              refine go (B := T23.setTop (mkF m 116 #[.val (.int p1), .val (.int p2), .val (.int p3), .val (.int p4), .val (.int p5), .val (.int p6), .val (.ref b1), .val (.int (1 : Int32)), .val (.int (p5 &&& (3 : Int32))), .val (.int p3)] [(.int (fNext ((((0 : Int32) + (1 : Int32)) + (1 : Int32)) + (1 : Int32)) p3))])) (fun _ k => st23.trans k) ?_
              refine go (B := T23.setTop (mkF m 118 #[.val (.int p1), .val (.int p2), .val (.int p3), .val (.int p4), .val (.int p5), .val (.int p6), .val (.ref b1), .val (.int (1 : Int32)), .val (.int (p5 &&& (3 : Int32))), .val (.int p3)] [(.int p3), (.int (fNext ((((0 : Int32) + (1 : Int32)) + (1 : Int32)) + (1 : Int32)) p3))])) (fun _ k => XS.iload X23.here hx rfl (hb hby at_116) rfl k) ?_
              have hc118 : (fNext ((((0 : Int32) + (1 : Int32)) + (1 : Int32)) + (1 : Int32)) p3) = p3 := fNext_ne (by decide +kernel)
              refine go (B := T23.setTop (mkF m 121 #[.val (.int p1), .val (.int p2), .val (.int p3), .val (.int p4), .val (.int p5), .val (.int p6), .val (.ref b1), .val (.int (1 : Int32)), .val (.int (p5 &&& (3 : Int32))), .val (.int p3)] [])) (fun _ k => XS.icmpNo X23.here hx rfl (hb hby at_118) rfl (teq hc118).2 k) ?_
              refine go (B := T23.setTop (mkF m 122 #[.val (.int p1), .val (.int p2), .val (.int p3), .val (.int p4), .val (.int p5), .val (.int p6), .val (.ref b1), .val (.int (1 : Int32)), .val (.int (p5 &&& (3 : Int32))), .val (.int p3)] [(.int (1 : Int32))])) (fun _ k => XS.iconst X23.here hx rfl (hb hby at_121) k) ?_
              refine go (B := T23.setTop (mkF m 126 #[.val (.int p1), .val (.int p2), .val (.int p3), .val (.int p4), .val (.int p5), .val (.int p6), .val (.ref b1), .val (.int (1 : Int32)), .val (.int (p5 &&& (3 : Int32))), .val (.int p3)] [(.int (1 : Int32))])) (fun _ k => XS.goto X23.here hx rfl (pc0 := 122) (pc' := 126) rfl (hb hby at_122) (by decide) (by decide) k) ?_
              refine go (B := T23.setTop (mkF m 128 #[.val (.int p1), .val (.int p2), .val (.int p3), .val (.int p4), .val (.int p5), .val (.int p6), .val (.ref b1), .val (.int (1 : Int32)), .val (.int (p5 &&& (3 : Int32))), .val (.int p3)] [])) (fun _ k => XS.istore X23.here hx rfl (hb hby at_126) rfl (l' := #[.val (.int p1), .val (.int p2), .val (.int p3), .val (.int p4), .val (.int p5), .val (.int p6), .val (.ref b1), .val (.int (1 : Int32)), .val (.int (p5 &&& (3 : Int32))), .val (.int p3)]) rfl k) ?_
              refine go (B := T23.setTop (mkF m 130 #[.val (.int p1), .val (.int p2), .val (.int p3), .val (.int p4), .val (.int p5), .val (.int p6), .val (.ref b1), .val (.int (1 : Int32)), .val (.int (p5 &&& (3 : Int32))), .val (.int p3)] [(.int p6)])) (fun _ k => XS.iload X23.here hx rfl (hb hby at_128) rfl k) ?_
              refine go (B := T23.setTop (mkF m 131 #[.val (.int p1), .val (.int p2), .val (.int p3), .val (.int p4), .val (.int p5), .val (.int p6), .val (.ref b1), .val (.int (1 : Int32)), .val (.int (p5 &&& (3 : Int32))), .val (.int p3)] [(.int (1 : Int32)), (.int p6)])) (fun _ k => XS.iconst X23.here hx rfl (hb hby at_130) k) ?_
              refine go (B := T23.setTop (mkF m 132 #[.val (.int p1), .val (.int p2), .val (.int p3), .val (.int p4), .val (.int p5), .val (.int p6), .val (.ref b1), .val (.int (1 : Int32)), .val (.int (p5 &&& (3 : Int32))), .val (.int p3)] [(.int (p6 &&& (1 : Int32)))])) (fun _ k => XS.iand X23.here hx rfl (hb hby at_131) rfl k) ?_
              by_cases hc132 : (p6 &&& (1 : Int32)) = (0 : Int32)
              · refine go (B := T23.setTop (mkF m 190 #[.val (.int p1), .val (.int p2), .val (.int p3), .val (.int p4), .val (.int p5), .val (.int p6), .val (.ref b1), .val (.int (1 : Int32)), .val (.int (p5 &&& (3 : Int32))), .val (.int p3)] [])) (fun _ k => XS.ifYes X23.here hx rfl (pc0 := 132) (pc' := 190) rfl (hb hby at_132) rfl ((if0 _ _).trans (teq hc132).1) (by decide) (by decide) k) ?_
                refine go (B := T23.setTop (mkF m 192 #[.val (.int p1), .val (.int p2), .val (.int p3), .val (.int p4), .val (.int p5), .val (.int p6), .val (.ref b1), .val (.int (1 : Int32)), .val (.int (p5 &&& (3 : Int32))), .val (.int p3)] [(.int (1 : Int32))])) (fun _ k => XS.iload X23.here hx rfl (hb hby at_190) rfl k) ?_
                refine goRetN X23 hx (t := .boolean) Bd.returns (by simp) hlk (hb hby at_192) ?_ (by decide) (by decide)
                rw [e23]
                exact ⟨rfl, N23⟩
              · refine go (B := T23.setTop (mkF m 135 #[.val (.int p1), .val (.int p2), .val (.int p3), .val (.int p4), .val (.int p5), .val (.int p6), .val (.ref b1), .val (.int (1 : Int32)), .val (.int (p5 &&& (3 : Int32))), .val (.int p3)] [])) (fun _ k => XS.ifNo X23.here hx rfl (hb hby at_132) rfl ((if0 _ _).trans (feq hc132).1) k) ?_
                refine go (B := T23.setTop (mkF m 137 #[.val (.int p1), .val (.int p2), .val (.int p3), .val (.int p4), .val (.int p5), .val (.int p6), .val (.ref b1), .val (.int (1 : Int32)), .val (.int (p5 &&& (3 : Int32))), .val (.int p3)] [(.ref b1)])) (fun _ k => XS.aload X23.here hx rfl (hb hby at_135) rfl rfl k) ?_
                refine go (B := T23.setTop (mkF m 138 #[.val (.int p1), .val (.int p2), .val (.int p3), .val (.int p4), .val (.int p5), .val (.int p6), .val (.ref b1), .val (.int (1 : Int32)), .val (.int (p5 &&& (3 : Int32))), .val (.int p3)] [(.int (3 : Int32)), (.ref b1)])) (fun _ k => XS.iconst X23.here hx rfl (hb hby at_137) k) ?_
                refine go (B := T23.setTop (mkF m 139 #[.val (.int p1), .val (.int p2), .val (.int p3), .val (.int p4), .val (.int p5), .val (.int p6), .val (.ref b1), .val (.int (1 : Int32)), .val (.int (p5 &&& (3 : Int32))), .val (.int p3)] [(.int (0 : Int32)), (.int (3 : Int32)), (.ref b1)])) (fun _ k => XS.iconst X23.here hx rfl (hb hby at_138) k) ?_
                refine go (B := T23.setTop (mkF m 140 #[.val (.int p1), .val (.int p2), .val (.int p3), .val (.int p4), .val (.int p5), .val (.int p6), .val (.ref b1), .val (.int (1 : Int32)), .val (.int (p5 &&& (3 : Int32))), .val (.int p3)] [(.int (0 : Int32)), (.int (0 : Int32)), (.int (3 : Int32)), (.ref b1)])) (fun _ k => XS.iconst X23.here hx rfl (hb hby at_139) k) ?_
                obtain ⟨cq24, kq24, q24a, q24b, q24c⟩ := isOf hZ e23 R22.1
                obtain ⟨_, _, ⟨T24, L24, k24, n24⟩, -, X24, ⟨Lc24, hQ24, l24, y24, z24⟩, st24⟩ := X23.virtualBack hx (y := (⟨"com/example/zonecast/zonecast/RecordValues", "clear", "(III)V"⟩ : MethodName)) (z := (⟨"com/example/zonecast/zonecast/RecordValues", "clear", "(III)V"⟩ : MethodName)) hown (mvT hZ (hw _ (List.mem_of_getElem? (i := 24) rfl))) (mvT hZ (hw _ (List.mem_of_getElem? (i := 25) rfl))) (notFace_of_selects (args := #[]) (mvT hZ (hw _ (List.mem_of_getElem? (i := 27) rfl)))) (mvT hZ (hw _ (List.mem_of_getElem? (i := 27) rfl))) (mvT hZ (hw _ (List.mem_of_getElem? (i := 26) rfl))) (by decide) (backOf (W := 0) (rm4 l Z a0 hw [] b1 (3 : Int32) (0 : Int32) (0 : Int32) t4 en4 dg4 ((((0 : Int32) + (1 : Int32)) + (1 : Int32)) + (1 : Int32)) (mx (0 : Int32) (0 : Int32)) (mx (0 : Int32) (3 : Int32)) (mx (0 : Int32) (0 : Int32)) p3 T22.heap n0 Zr22 R22 (by decide +kernel) (by decide +kernel) (by decide +kernel) (by decide +kernel) (by decide +kernel) (by decide +kernel)) hZ (hw _ (List.mem_of_getElem? (i := 28) rfl)) (hw _ (List.mem_of_getElem? (i := 2) rfl)) (by decide) (by decide)) q24a q24c (g := (mkF m 140 #[.val (.int p1), .val (.int p2), .val (.int p3), .val (.int p4), .val (.int p5), .val (.int p6), .val (.ref b1), .val (.int (1 : Int32)), .val (.int (p5 &&& (3 : Int32))), .val (.int p3)] [(.int (0 : Int32)), (.int (0 : Int32)), (.int (3 : Int32)), (.ref b1)])) rfl (by rw [hml]; rfl) (Steps.refl _) (argsL := [(.int (3 : Int32)), (.int (0 : Int32)), (.int (0 : Int32))]) (rest := []) (lenOf pd__III_V rfl) rfl (by show 2 * 0 + _ ≤ _; exact Nat.le_of_eq rfl) (hb hby at_140) (fun _ _ => ⟨rfl, e23, (by decide : 7 + 3 ≤ _), (by decide : 41 + 37 ≤ _)⟩)
                dsimp only [Pt.U, Pt.locs, Pt.cells, Pt.slots] at X24 l24 y24 z24 st24 hQ24
                subst l24 y24 z24
                obtain ⟨rfl, N24q, t24, en24, dg24, x24, R24, hT24, hD24, ⟨kt24, vt24, Vt24⟩, ⟨kd24, vd24, Vd24⟩⟩ := hQ24
                have N24 := Fr.app N23 N24q
                have Zr24 := R24.2.2.2.2.2.2.2.2.2.2.2.2.2.2.2
                refine go (B := T24.setTop (mkF m 143 #[.val (.int p1), .val (.int p2), .val (.int p3), .val (.int p4), .val (.int p5), .val (.int p6), .val (.ref b1), .val (.int (1 : Int32)), .val (.int (p5 &&& (3 : Int32))), .val (.int p3)] [])) (fun _ k => st24.trans k) ?_
                refine go (B := T24.setTop (mkF m 145 #[.val (.int p1), .val (.int p2), .val (.int p3), .val (.int p4), .val (.int p5), .val (.int p6), .val (.ref b1), .val (.int (1 : Int32)), .val (.int (p5 &&& (3 : Int32))), .val (.int p3)] [(.int (1 : Int32))])) (fun _ k => XS.iload X24.here hx rfl (hb hby at_143) rfl k) ?_
                have hc145 : ¬ ((1 : Int32) = (0 : Int32)) := by decide
                refine go (B := T24.setTop (mkF m 148 #[.val (.int p1), .val (.int p2), .val (.int p3), .val (.int p4), .val (.int p5), .val (.int p6), .val (.ref b1), .val (.int (1 : Int32)), .val (.int (p5 &&& (3 : Int32))), .val (.int p3)] [])) (fun _ k => XS.ifNo X24.here hx rfl (hb hby at_145) rfl ((if0 _ _).trans (feq hc145).1) k) ?_
                refine go (B := T24.setTop (mkF m 150 #[.val (.int p1), .val (.int p2), .val (.int p3), .val (.int p4), .val (.int p5), .val (.int p6), .val (.ref b1), .val (.int (1 : Int32)), .val (.int (p5 &&& (3 : Int32))), .val (.int p3)] [(.ref b1)])) (fun _ k => XS.aload X24.here hx rfl (hb hby at_148) rfl rfl k) ?_
                obtain ⟨cq25, kq25, q25a, q25b, q25c⟩ := isOf hZ rfl R24.1
                obtain ⟨_, _, ⟨T25, L25, k25, n25⟩, -, X25, ⟨Lc25, hQ25, l25, y25, z25⟩, st25⟩ := X24.virtualBack hx (y := (⟨"com/example/zonecast/zonecast/RecordValues", "next", "()I"⟩ : MethodName)) (z := (⟨"com/example/zonecast/zonecast/RecordValues", "next", "()I"⟩ : MethodName)) hown (mvT hZ (hw _ (List.mem_of_getElem? (i := 17) rfl))) (mvT hZ (hw _ (List.mem_of_getElem? (i := 18) rfl))) (notFace_of_selects (args := #[]) (mvT hZ (hw _ (List.mem_of_getElem? (i := 20) rfl)))) (mvT hZ (hw _ (List.mem_of_getElem? (i := 20) rfl))) (mvT hZ (hw _ (List.mem_of_getElem? (i := 19) rfl))) (by decide) (backOf (W := 0) (rm3 l Z a0 hw [] b1 t24 en24 dg24 (0 : Int32) (mx (mx (0 : Int32) (0 : Int32)) (0 : Int32)) (mx (mx (0 : Int32) (3 : Int32)) (3 : Int32)) (mx (mx (0 : Int32) (0 : Int32)) (0 : Int32)) x24 T24.heap n0 Zr24 R24 (by decide +kernel) (by decide +kernel)) hZ (hw _ (List.mem_of_getElem? (i := 21) rfl)) (hw _ (List.mem_of_getElem? (i := 2) rfl)) (by decide) (by decide)) q25a q25c (g := (mkF m 150 #[.val (.int p1), .val (.int p2), .val (.int p3), .val (.int p4), .val (.int p5), .val (.int p6), .val (.ref b1), .val (.int (1 : Int32)), .val (.int (p5 &&& (3 : Int32))), .val (.int p3)] [(.ref b1)])) rfl (by rw [hml]; rfl) (Steps.refl _) (argsL := []) (rest := []) (lenOf pd___I rfl) rfl (by show 2 * 0 + _ ≤ _; exact Nat.le_of_eq rfl) (hb hby at_150) (fun _ _ => ⟨rfl, rfl, (by decide : 10 + 0 ≤ _), (by decide : 78 + 0 ≤ _)⟩)
                dsimp only [Pt.U, Pt.locs, Pt.cells, Pt.slots] at X25 l25 y25 z25 st25 hQ25
                subst l25 y25 z25
                obtain ⟨rfl, N25q, e25⟩ := hQ25
                have N25 := Fr.app N24 N25q
                refine go (B := T25.setTop (mkF m 153 #[.val (.int p1), .val (.int p2), .val (.int p3), .val (.int p4), .val (.int p5), .val (.int p6), .val (.ref b1), .val (.int (1 : Int32)), .val (.int (p5 &&& (3 : Int32))), .val (.int p3)] [(.int (fNext (0 : Int32) x24))])) (fun _ k => st25.trans k) ?_
                have hc153 : (fNext (0 : Int32) x24) = (0 : Int32) := rfl
                refine go (B := T25.setTop (mkF m 156 #[.val (.int p1), .val (.int p2), .val (.int p3), .val (.int p4), .val (.int p5), .val (.int p6), .val (.ref b1), .val (.int (1 : Int32)), .val (.int (p5 &&& (3 : Int32))), .val (.int p3)] [])) (fun _ k => XS.ifNo X25.here hx rfl (hb hby at_153) rfl ((if0 _ _).trans (teq hc153).2) k) ?_
                refine go (B := T25.setTop (mkF m 157 #[.val (.int p1), .val (.int p2), .val (.int p3), .val (.int p4), .val (.int p5), .val (.int p6), .val (.ref b1), .val (.int (1 : Int32)), .val (.int (p5 &&& (3 : Int32))), .val (.int p3)] [(.int (1 : Int32))])) (fun _ k => XS.iconst X25.here hx rfl (hb hby at_156) k) ?_
                refine go (B := T25.setTop (mkF m 161 #[.val (.int p1), .val (.int p2), .val (.int p3), .val (.int p4), .val (.int p5), .val (.int p6), .val (.ref b1), .val (.int (1 : Int32)), .val (.int (p5 &&& (3 : Int32))), .val (.int p3)] [(.int (1 : Int32))])) (fun _ k => XS.goto X25.here hx rfl (pc0 := 157) (pc' := 161) rfl (hb hby at_157) (by decide) (by decide) k) ?_
                refine go (B := T25.setTop (mkF m 163 #[.val (.int p1), .val (.int p2), .val (.int p3), .val (.int p4), .val (.int p5), .val (.int p6), .val (.ref b1), .val (.int (1 : Int32)), .val (.int (p5 &&& (3 : Int32))), .val (.int p3)] [])) (fun _ k => XS.istore X25.here hx rfl (hb hby at_161) rfl (l' := #[.val (.int p1), .val (.int p2), .val (.int p3), .val (.int p4), .val (.int p5), .val (.int p6), .val (.ref b1), .val (.int (1 : Int32)), .val (.int (p5 &&& (3 : Int32))), .val (.int p3)]) rfl k) ?_
                refine go (B := T25.setTop (mkF m 165 #[.val (.int p1), .val (.int p2), .val (.int p3), .val (.int p4), .val (.int p5), .val (.int p6), .val (.ref b1), .val (.int (1 : Int32)), .val (.int (p5 &&& (3 : Int32))), .val (.int p3)] [(.ref b1)])) (fun _ k => XS.aload X25.here hx rfl (hb hby at_163) rfl rfl k) ?_
                refine go (B := T25.setTop (mkF m 166 #[.val (.int p1), .val (.int p2), .val (.int p3), .val (.int p4), .val (.int p5), .val (.int p6), .val (.ref b1), .val (.int (1 : Int32)), .val (.int (p5 &&& (3 : Int32))), .val (.int p3)] [(.int p4), (.ref b1)])) (fun _ k => XS.iloadN X25.here hx rfl (hb hby at_165) rfl k) ?_
                obtain ⟨cq26, kq26, q26a, q26b, q26c⟩ := isOf hZ e25 R24.1
                obtain ⟨_, _, ⟨T26, L26, k26, n26⟩, -, X26, ⟨Lc26, hQ26, l26, y26, z26⟩, st26⟩ := X25.virtualBack hx (y := (⟨"com/example/zonecast/zonecast/RecordValues", "add", "(I)V"⟩ : MethodName)) (z := (⟨"com/example/zonecast/zonecast/RecordValues", "add", "(I)V"⟩ : MethodName)) hown (mvT hZ (hw _ (List.mem_of_getElem? (i := 29) rfl))) (mvT hZ (hw _ (List.mem_of_getElem? (i := 30) rfl))) (notFace_of_selects (args := #[]) (mvT hZ (hw _ (List.mem_of_getElem? (i := 32) rfl)))) (mvT hZ (hw _ (List.mem_of_getElem? (i := 32) rfl))) (mvT hZ (hw _ (List.mem_of_getElem? (i := 31) rfl))) (by decide) (backOf (W := 0) (rm5 l Z a0 hw [] b1 p4 t24 en24 dg24 (0 : Int32) (mx (mx (0 : Int32) (0 : Int32)) (0 : Int32)) (mx (mx (0 : Int32) (3 : Int32)) (3 : Int32)) (mx (mx (0 : Int32) (0 : Int32)) (0 : Int32)) x24 T24.heap n0 Zr24 R24 (by decide +kernel) (by decide +kernel)) hZ (hw _ (List.mem_of_getElem? (i := 33) rfl)) (hw _ (List.mem_of_getElem? (i := 2) rfl)) (by decide) (by decide)) q26a q26c (g := (mkF m 166 #[.val (.int p1), .val (.int p2), .val (.int p3), .val (.int p4), .val (.int p5), .val (.int p6), .val (.ref b1), .val (.int (1 : Int32)), .val (.int (p5 &&& (3 : Int32))), .val (.int p3)] [(.int p4), (.ref b1)])) rfl (by rw [hml]; rfl) (Steps.refl _) (argsL := [(.int p4)]) (rest := []) (lenOf pd__I_V rfl) rfl (by show 2 * 0 + _ ≤ _; exact Nat.le_of_eq rfl) (hb hby at_166) (fun _ _ => ⟨rfl, e25, (by decide : 10 + 0 ≤ _), (by decide : 78 + 0 ≤ _)⟩)
                dsimp only [Pt.U, Pt.locs, Pt.cells, Pt.slots] at X26 l26 y26 z26 st26 hQ26
                subst l26 y26 z26
                obtain ⟨rfl, N26q, R26⟩ := hQ26
                have N26 := Fr.app N25 N26q
                have Zr26 := R26.2.2.2.2.2.2.2.2.2.2.2.2.2.2.2
                refine go (B := T26.setTop (mkF m 169 #[.val (.int p1), .val (.int p2), .val (.int p3), .val (.int p4), .val (.int p5), .val (.int p6), .val (.ref b1), .val (.int (1 : Int32)), .val (.int (p5 &&& (3 : Int32))), .val (.int p3)] [])) (fun _ k => st26.trans k) ?_
                refine go (B := T26.setTop (mkF m 171 #[.val (.int p1), .val (.int p2), .val (.int p3), .val (.int p4), .val (.int p5), .val (.int p6), .val (.ref b1), .val (.int (1 : Int32)), .val (.int (p5 &&& (3 : Int32))), .val (.int p3)] [(.int (1 : Int32))])) (fun _ k => XS.iload X26.here hx rfl (hb hby at_169) rfl k) ?_
                have hc171 : ¬ ((1 : Int32) = (0 : Int32)) := by decide
                refine go (B := T26.setTop (mkF m 174 #[.val (.int p1), .val (.int p2), .val (.int p3), .val (.int p4), .val (.int p5), .val (.int p6), .val (.ref b1), .val (.int (1 : Int32)), .val (.int (p5 &&& (3 : Int32))), .val (.int p3)] [])) (fun _ k => XS.ifNo X26.here hx rfl (hb hby at_171) rfl ((if0 _ _).trans (feq hc171).1) k) ?_
                refine go (B := T26.setTop (mkF m 176 #[.val (.int p1), .val (.int p2), .val (.int p3), .val (.int p4), .val (.int p5), .val (.int p6), .val (.ref b1), .val (.int (1 : Int32)), .val (.int (p5 &&& (3 : Int32))), .val (.int p3)] [(.ref b1)])) (fun _ k => XS.aload X26.here hx rfl (hb hby at_174) rfl rfl k) ?_
                obtain ⟨cq27, kq27, q27a, q27b, q27c⟩ := isOf hZ rfl R26.1
                obtain ⟨_, _, ⟨T27, L27, k27, n27⟩, -, X27, ⟨Lc27, hQ27, l27, y27, z27⟩, st27⟩ := X26.virtualBack hx (y := (⟨"com/example/zonecast/zonecast/RecordValues", "next", "()I"⟩ : MethodName)) (z := (⟨"com/example/zonecast/zonecast/RecordValues", "next", "()I"⟩ : MethodName)) hown (mvT hZ (hw _ (List.mem_of_getElem? (i := 17) rfl))) (mvT hZ (hw _ (List.mem_of_getElem? (i := 18) rfl))) (notFace_of_selects (args := #[]) (mvT hZ (hw _ (List.mem_of_getElem? (i := 20) rfl)))) (mvT hZ (hw _ (List.mem_of_getElem? (i := 20) rfl))) (mvT hZ (hw _ (List.mem_of_getElem? (i := 19) rfl))) (by decide) (backOf (W := 0) (rm3 l Z a0 hw [] b1 t24 en24 dg24 ((0 : Int32) + (1 : Int32)) (mx (mx (0 : Int32) (0 : Int32)) (0 : Int32)) (mx (mx (0 : Int32) (3 : Int32)) (3 : Int32)) (mx (mx (0 : Int32) (0 : Int32)) (0 : Int32)) p4 T26.heap n0 Zr26 R26 (by decide +kernel) (by decide +kernel)) hZ (hw _ (List.mem_of_getElem? (i := 21) rfl)) (hw _ (List.mem_of_getElem? (i := 2) rfl)) (by decide) (by decide)) q27a q27c (g := (mkF m 176 #[.val (.int p1), .val (.int p2), .val (.int p3), .val (.int p4), .val (.int p5), .val (.int p6), .val (.ref b1), .val (.int (1 : Int32)), .val (.int (p5 &&& (3 : Int32))), .val (.int p3)] [(.ref b1)])) rfl (by rw [hml]; rfl) (Steps.refl _) (argsL := []) (rest := []) (lenOf pd___I rfl) rfl (by show 2 * 0 + _ ≤ _; exact Nat.le_of_eq rfl) (hb hby at_176) (fun _ _ => ⟨rfl, rfl, (by decide : 10 + 0 ≤ _), (by decide : 78 + 0 ≤ _)⟩)
                dsimp only [Pt.U, Pt.locs, Pt.cells, Pt.slots] at X27 l27 y27 z27 st27 hQ27
                subst l27 y27 z27
                obtain ⟨rfl, N27q, e27⟩ := hQ27
                have N27 := Fr.app N26 N27q
                refine go (B := T27.setTop (mkF m 179 #[.val (.int p1), .val (.int p2), .val (.int p3), .val (.int p4), .val (.int p5), .val (.int p6), .val (.ref b1), .val (.int (1 : Int32)), .val (.int (p5 &&& (3 : Int32))), .val (.int p3)] [(.int (fNext ((0 : Int32) + (1 : Int32)) p4))])) (fun _ k => st27.trans k) ?_
                refine go (B := T27.setTop (mkF m 180 #[.val (.int p1), .val (.int p2), .val (.int p3), .val (.int p4), .val (.int p5), .val (.int p6), .val (.ref b1), .val (.int (1 : Int32)), .val (.int (p5 &&& (3 : Int32))), .val (.int p3)] [(.int p4), (.int (fNext ((0 : Int32) + (1 : Int32)) p4))])) (fun _ k => XS.iloadN X27.here hx rfl (hb hby at_179) rfl k) ?_
                have hc180 : (fNext ((0 : Int32) + (1 : Int32)) p4) = p4 := fNext_ne (by decide +kernel)
                refine go (B := T27.setTop (mkF m 183 #[.val (.int p1), .val (.int p2), .val (.int p3), .val (.int p4), .val (.int p5), .val (.int p6), .val (.ref b1), .val (.int (1 : Int32)), .val (.int (p5 &&& (3 : Int32))), .val (.int p3)] [])) (fun _ k => XS.icmpNo X27.here hx rfl (hb hby at_180) rfl (teq hc180).2 k) ?_
                refine go (B := T27.setTop (mkF m 184 #[.val (.int p1), .val (.int p2), .val (.int p3), .val (.int p4), .val (.int p5), .val (.int p6), .val (.ref b1), .val (.int (1 : Int32)), .val (.int (p5 &&& (3 : Int32))), .val (.int p3)] [(.int (1 : Int32))])) (fun _ k => XS.iconst X27.here hx rfl (hb hby at_183) k) ?_
                refine go (B := T27.setTop (mkF m 188 #[.val (.int p1), .val (.int p2), .val (.int p3), .val (.int p4), .val (.int p5), .val (.int p6), .val (.ref b1), .val (.int (1 : Int32)), .val (.int (p5 &&& (3 : Int32))), .val (.int p3)] [(.int (1 : Int32))])) (fun _ k => XS.goto X27.here hx rfl (pc0 := 184) (pc' := 188) rfl (hb hby at_184) (by decide) (by decide) k) ?_
                refine go (B := T27.setTop (mkF m 190 #[.val (.int p1), .val (.int p2), .val (.int p3), .val (.int p4), .val (.int p5), .val (.int p6), .val (.ref b1), .val (.int (1 : Int32)), .val (.int (p5 &&& (3 : Int32))), .val (.int p3)] [])) (fun _ k => XS.istore X27.here hx rfl (hb hby at_188) rfl (l' := #[.val (.int p1), .val (.int p2), .val (.int p3), .val (.int p4), .val (.int p5), .val (.int p6), .val (.ref b1), .val (.int (1 : Int32)), .val (.int (p5 &&& (3 : Int32))), .val (.int p3)]) rfl k) ?_
                refine go (B := T27.setTop (mkF m 192 #[.val (.int p1), .val (.int p2), .val (.int p3), .val (.int p4), .val (.int p5), .val (.int p6), .val (.ref b1), .val (.int (1 : Int32)), .val (.int (p5 &&& (3 : Int32))), .val (.int p3)] [(.int (1 : Int32))])) (fun _ k => XS.iload X27.here hx rfl (hb hby at_190) rfl k) ?_
                refine goRetN X27 hx (t := .boolean) Bd.returns (by simp) hlk (hb hby at_192) ?_ (by decide) (by decide)
                rw [e27]
                exact ⟨rfl, N27⟩
set_option maxRecDepth 65536 in
set_option maxHeartbeats 40000000 in
theorem comes_1 {Post : Tables → Env → Array Value → State → Outcome → State → Prop} (hpost : ∀ tb e args s v u, (limb_1_1.after args s (.returned v) u = true ∧ limb_1_2.after args s (.returned v) u = true ∧ True) → FrameEnd s (.returned v) u (Jvm.fieldLocs frame_1_writes args s ++ Jvm.arrayLocs frame_1_arrays args s ++ Jvm.staticLocs frame_1_statics s) 24 128 → Post tb e args s (.returned v) u) :
    ArmFor flags0 classFile x code maxLocals ret World_1 tables_1 room_1 Calls_1 rest_1 Pre_1 Post := by
  intro l hfl _ _ p e ha hc hk s m args below hf hA hF happ hP
  obtain ⟨hcalls, hrest, hpre⟩ := hP
  obtain ⟨-, -, -, hnamed, -, -, -, hat⟩ := (Spec.applies_iff hf).mp happ
  obtain ⟨hg, hn⟩ := and_e (Cond.before_iff.mp (show (Jvm.Cond.and given_1 narrow_1).before args s = true from hpre))
  obtain ⟨hcnt, gg0⟩ := and_e hg
  obtain ⟨ga0, gg1⟩ := and_e gg0
  obtain ⟨ga1, gg2⟩ := and_e gg1
  obtain ⟨ga2, gg3⟩ := and_e gg2
  obtain ⟨ga3, gg4⟩ := and_e gg3
  obtain ⟨ga4, gg5⟩ := and_e gg4
  obtain ⟨w0, w1, w2, w3, w4, w5, rfl⟩ : ∃ w0 w1 w2 w3 w4 w5 : Value, args = #[w0, w1, w2, w3, w4, w5] := by
    have hs : args.size = 6 := by simpa [Cond.value, given_1] using hcnt
    obtain ⟨L⟩ := args
    match L, hs with
    | [w0, w1, w2, w3, w4, w5], _ => exact ⟨w0, w1, w2, w3, w4, w5, rfl⟩
  have hw := fun d (hd : d ∈ tables_1) => atoms_spec (ws := Jvm.Cond.code x code maxLocals ret :: tables_1) hat d (List.mem_cons_of_mem _ hd)
  have hfit : Fit s := fun {y c} hc i hi => by
    obtain ⟨ha, rfl⟩ := Array.getElem?_eq_some_iff.mp hc
    have q := List.all_eq_true.mp ((Array.all_eq_true_iff_forall_mem.mp hF) _ (Array.getElem_mem ha)) i (List.mem_range.mpr hi)
    simpa [Array.getElem?_eq_getElem hi] using q
  obtain ⟨i0, ei0⟩ := is_v ga0
  obtain rfl : w0 = (.int i0) := Option.some.inj ei0
  obtain ⟨i1, ei1⟩ := is_v ga1
  obtain rfl : w1 = (.int i1) := Option.some.inj ei1
  obtain ⟨i2, ei2⟩ := is_v ga2
  obtain rfl : w2 = (.int i2) := Option.some.inj ei2
  obtain ⟨i3, ei3⟩ := is_v ga3
  obtain rfl : w3 = (.int i3) := Option.some.inj ei3
  obtain ⟨i4, ei4⟩ := is_v ga4
  obtain rfl : w4 = (.int i4) := Option.some.inj ei4
  obtain ⟨i5, ei5⟩ := is_v gg5
  obtain rfl : w5 = (.int i5) := Option.some.inj ei5
  obtain ⟨n, o, h1, h2, h3, _, L, rfl, ⟨rfl, N⟩, hq⟩ := rm0 l s _ hw tables_1 i0 i1 i2 i3 i4 i5 s.heap s.heap.size (Nat.le_refl _) p e ha hc hk s m _ below hf ((Spec.applies_iff_loose hf).mp happ).1 ⟨rfl, State.Warmed39.refl s, rfl⟩ trivial
  refine ⟨n, _, h1, h2, h3, hpost _ _ _ _ _ _ ⟨Cond.after_iff.mpr rfl, Cond.after_iff.mpr (eq_i res_at (Term.int_eval (1)) rfl), trivial⟩ ⟨hq.1, hq.2.1, (hq.2.2.sift fun y hy => Or.inr (N y hy)).mono (by decide) (by decide)⟩⟩
theorem main_1_1 : Claimed_1_1 := comes_1 fun _ _ _ _ _ _ h hF => ⟨h.1, hF⟩
theorem main_1_2 : Claimed_1_2 := comes_1 fun _ _ _ _ _ _ h hF => ⟨h.2.1, hF⟩
end Jvm.Pilot.@@N@@
namespace Jvm.Pilot.@@N@@
open Jvm Jvm.ClassFile Sem Op Lib Jvm.Free Jvm.Stand Jvm.Pilot.@@N@@.Jvm.D
/-! MADE BY PROGRAM (witnessworld.py) out of the Statement's table words and the real class files: 11 classes; the members and pool entries that the words name. The judged class is class 1, her method 1. -/
namespace start1
open Jvm.ClassFile
def u (s : String) : CpInfo := .utf8 (stringToUtf16 s)
/-- a pool by its gaps: so many unusable entries, then the entry; so many at the end -/
def gap : Nat → List CpInfo → List CpInfo
  | 0, r => r
  | n + 1, r => .unusable :: gap n r
def poolList (es : List (Nat × CpInfo)) (last : Nat) : List CpInfo := es.foldr (fun e r => gap e.1 (e.2 :: r)) (gap last [])
def pool (es : List (Nat × CpInfo)) (last : Nat) : Array CpInfo := ⟨poolList es last⟩
def fileOf (pool : Array CpInfo) (this : Nat) (attrs : Array Attribute := #[]) (ms : Array MethodInfo := #[]) (fl : Nat := 33) (sup : Nat := 0) (ifs : Array Nat := #[]) (fds : Array FieldInfo := #[]) : ClassFile where
  minorVersion := 0
  majorVersion := 65
  constantPool := pool
  accessFlags := fl
  thisClass := this
  superClass := sup
  interfaces := ifs
  fields := fds
  methods := ms
  attributes := attrs
def plain (name : String) (sup : Option ClassId) : Class where
  name := name
  kind := .ordinary
  loader := none
  accessFlags := 33
  super := sup
  interfaces := #[]
  cf := none
  fields := #[]
  methods := #[]
  instanceTypes := #[]
  staticTypes := #[]
  resolved := #[]
  callSites := []
  init := .initialized
  statics := none
  mirror := none

def pool0 : Array CpInfo := pool [(5, u "<init>"), (0, u "()V"), (1, .class_ 10), (1, u "java/lang/Object")] 113

def k0c0 : Code := { maxStack := 0, maxLocals := 1, code := object_method_1_code, exceptionTable := #[], attributes := #[] }
def k0m0 : Method := { name := "<init>", desc := "()V", sig := { parameters := [], returnType := none }, accessFlags := 1, code := some k0c0 }
/-- java/lang/Object -/
def k0 : Class := { plain "java/lang/Object" none with
  accessFlags := 33
  interfaces := #[]
  cf := some (fileOf pool0 8 #[] #[{ accessFlags := 1, nameIndex := 5, descriptorIndex := 6, attributes := #[] }] 33 0 #[] #[])
  fields := #[]
  methods := #[k0m0]
  instanceTypes := #[]
  staticTypes := #[]
  resolved := Array.replicate 124 none
  statics := none }

def pool1 : Array CpInfo := pool [(2, .class_ 4), (0, .nameAndType 5 6), (0, u "java/lang/Object"), (0, u "<init>"), (0, u "()V"), (0, .class_ 8), (0, u "com/example/zonecast/zonecast/RecordValues"), (0, .methodref 7 3), (0, .methodref 7 11), (0, .nameAndType 12 13), (0, u "next"), (0, u "()I"), (0, .methodref 7 15), (0, .nameAndType 16 17), (0, u "clear"), (0, u "(III)V"), (0, .methodref 7 19), (0, .nameAndType 20 21), (0, u "add"), (0, u "(I)V"), (0, .class_ 23), (0, u "com/example/zonecast/zonecast/RecordValuesNextPinLaw"), (2, u "law"), (0, u "(IIIIII)Z")] 3

def k1m0 : Method := { name := "<init>", desc := "()V", sig := { parameters := [], returnType := none }, accessFlags := 1, code := none }
def k1c1 : Code := { maxStack := 4, maxLocals := 10, code := code, exceptionTable := #[], attributes := #[] }
def k1m1 : Method := { name := "law", desc := "(IIIIII)Z", sig := { parameters := [.int, .int, .int, .int, .int, .int], returnType := some .boolean }, accessFlags := 9, code := some k1c1 }
/-- com/example/zonecast/zonecast/RecordValuesNextPinLaw -/
def k1 : Class := { plain "com/example/zonecast/zonecast/RecordValuesNextPinLaw" (some 0) with
  accessFlags := 49
  interfaces := #[]
  cf := some (fileOf pool1 22 #[] #[{ accessFlags := 1, nameIndex := 5, descriptorIndex := 6, attributes := #[] }, { accessFlags := 9, nameIndex := 26, descriptorIndex := 27, attributes := #[] }] 49 2 #[] #[])
  fields := #[]
  methods := #[k1m0, k1m1]
  instanceTypes := #[]
  staticTypes := #[]
  resolved := Array.replicate 31 none
  statics := none }

def pool2 : Array CpInfo := pool [(1, .methodref 2 3), (0, .class_ 4), (0, .nameAndType 5 6), (0, u "java/lang/Object"), (0, u "<init>"), (0, u "()V"), (0, .fieldref 8 9), (0, .class_ 10), (0, .nameAndType 11 12), (0, u "com/example/zonecast/zonecast/RecordValues"), (0, u "text"), (0, u "[C"), (0, .fieldref 8 14), (0, .nameAndType 15 16), (0, u "ends"), (0, u "[I"), (0, .fieldref 8 18), (0, .nameAndType 19 12), (0, u "digits"), (0, .fieldref 8 21), (0, .nameAndType 22 23), (0, u "size"), (0, u "I"), (24, u "clear"), (0, u "(III)V"), (1, u "add"), (0, u "(I)V"), (0, u "next"), (0, u "()I")] 9

def k2c0 : Code := { maxStack := 2, maxLocals := 1, code := prog_90_method_1_code, exceptionTable := #[], attributes := #[] }
def k2m0 : Method := { name := "<init>", desc := "()V", sig := { parameters := [], returnType := none }, accessFlags := 0, code := some k2c0 }
def k2c1 : Code := { maxStack := 2, maxLocals := 4, code := prog_90_method_2_code, exceptionTable := #[], attributes := #[] }
def k2m1 : Method := { name := "clear", desc := "(III)V", sig := { parameters := [.int, .int, .int], returnType := none }, accessFlags := 0, code := some k2c1 }
def k2c2 : Code := { maxStack := 5, maxLocals := 2, code := prog_90_method_3_code, exceptionTable := #[], attributes := #[] }
def k2m2 : Method := { name := "add", desc := "(I)V", sig := { parameters := [.int], returnType := none }, accessFlags := 0, code := some k2c2 }
def k2c3 : Code := { maxStack := 3, maxLocals := 1, code := prog_90_method_4_code, exceptionTable := #[], attributes := #[] }
def k2m3 : Method := { name := "next", desc := "()I", sig := { parameters := [], returnType := some .int }, accessFlags := 0, code := some k2c3 }
/-- com/example/zonecast/zonecast/RecordValues -/
def k2 : Class := { plain "com/example/zonecast/zonecast/RecordValues" (some 0) with
  accessFlags := 48
  interfaces := #[]
  cf := some (fileOf pool2 8 #[] #[{ accessFlags := 0, nameIndex := 5, descriptorIndex := 6, attributes := #[] }, { accessFlags := 0, nameIndex := 48, descriptorIndex := 49, attributes := #[] }, { accessFlags := 0, nameIndex := 51, descriptorIndex := 52, attributes := #[] }, { accessFlags := 0, nameIndex := 53, descriptorIndex := 54, attributes := #[] }] 48 2 #[] #[{ accessFlags := 2, nameIndex := 11, descriptorIndex := 12, attributes := #[] }, { accessFlags := 2, nameIndex := 15, descriptorIndex := 16, attributes := #[] }, { accessFlags := 2, nameIndex := 22, descriptorIndex := 23, attributes := #[] }, { accessFlags := 2, nameIndex := 19, descriptorIndex := 12, attributes := #[] }])
  fields := #[{ name := "text", type := (.array .char), accessFlags := 2, slot := 0, constantValue := 0 }, { name := "ends", type := (.array .int), accessFlags := 2, slot := 1, constantValue := 0 }, { name := "size", type := .int, accessFlags := 2, slot := 2, constantValue := 0 }, { name := "digits", type := (.array .char), accessFlags := 2, slot := 3, constantValue := 0 }]
  methods := #[k2m0, k2m1, k2m2, k2m3]
  instanceTypes := #[(.array .char), (.array .int), .int, (.array .char)]
  staticTypes := #[]
  resolved := Array.replicate 64 none
  statics := none }

def pool3 : Array CpInfo := pool [(1, u "java/lang/Cloneable"), (0, .class_ 1), (0, u "java/lang/Object"), (0, .class_ 3)] 3

/-- java/lang/Cloneable -/
def k3 : Class := { plain "java/lang/Cloneable" (some 0) with
  accessFlags := 1537
  interfaces := #[]
  cf := some (fileOf pool3 2 #[] #[] 1537 4 #[] #[])
  fields := #[]
  methods := #[]
  instanceTypes := #[]
  staticTypes := #[]
  resolved := Array.replicate 8 none
  statics := none }

def pool4 : Array CpInfo := pool [(1, u "java/io/Serializable"), (0, .class_ 1), (0, u "java/lang/Object"), (0, .class_ 3)] 3

/-- java/io/Serializable -/
def k4 : Class := { plain "java/io/Serializable" (some 0) with
  accessFlags := 1537
  interfaces := #[]
  cf := some (fileOf pool4 2 #[] #[] 1537 4 #[] #[])
  fields := #[]
  methods := #[]
  instanceTypes := #[]
  staticTypes := #[]
  resolved := Array.replicate 8 none
  statics := none }

/-- the primitive byte -/
def k5 : Class := { plain "byte" none with kind := .primitive 'B', accessFlags := 0x411 }
/-- [B -/
def k6 : Class := { plain "[B" (some 0) with kind := .array 5 .byte, interfaces := #[3, 4], accessFlags := 1041 }

/-- the primitive char -/
def k7 : Class := { plain "char" none with kind := .primitive 'C', accessFlags := 0x411 }
/-- [C -/
def k8 : Class := { plain "[C" (some 0) with kind := .array 7 .char, interfaces := #[3, 4], accessFlags := 1041 }

/-- the primitive int -/
def k9 : Class := { plain "int" none with kind := .primitive 'I', accessFlags := 0x411 }
/-- [I -/
def k10 : Class := { plain "[I" (some 0) with kind := .array 9 .int, interfaces := #[3, 4], accessFlags := 1041 }

def heap : Heap := #[]
def classes : Array Class := #[k0, k1, k2, k3, k4, k5, k6, k7, k8, k9, k10]
def interned : List (Array UInt16 × Addr) := []
def slotsUsed : Nat := 0
def theMethod : MethodId := ⟨1, 1⟩
def args0 : Array Value := #[.int 5, .int 7, .int 2, .int 9, .int 3, .int 1]
def aboutOver (below : List Frame) : State where
  vm := { classes := classes, interned := interned.toArray }
  heap := heap
  slotsUsed := slotsUsed
  threads := #[{ frames := .invoking theMethod args0 :: below }]
def below0 : List Frame := [.native { method := ⟨0, 0⟩, args := #[] }]
def about1 : State := aboutOver below0
def p0 : Program := .bare "" "" ""
def e0 : Env := launch0.env 0 0 0
theorem w_frames : about1.frames = Frame.invoking theMethod args0 :: below0 := rfl
set_option maxRecDepth 65536 in
theorem w_args : argsFit about1.vm theMethod args0 = true := by decide +kernel
set_option maxRecDepth 65536 in
theorem w_heap : heapFits about1 = true := by decide +kernel
set_option maxRecDepth 65536 in
theorem w_runnable : about1.curStatus? = some .runnable := by decide +kernel
set_option maxRecDepth 65536 in
theorem w_alone : about1.alone = true := by decide +kernel
set_option maxRecDepth 65536 in
theorem w_named : about1.methodNamed? x = some theMethod := by decide +kernel
set_option maxRecDepth 65536 in
theorem w_hears : about1.hears theMethod below0 = true := by decide +kernel
set_option maxRecDepth 65536 in
theorem w_ripe : about1.ripe theMethod args0 below0 = true := by decide +kernel
theorem w_running : about1.status = .running := rfl
set_option maxRecDepth 65536 in
theorem w_room : about1.hasRoom e0.platform room_1 = true :=
  launch0.hasRoom_least _ room_1 (by decide +kernel) (by decide +kernel) (by decide +kernel) (by decide +kernel) (by decide +kernel) (by decide +kernel)
theorem allAtoms_all (ts : List Jvm.Cond) (a : Array Jvm.Value) (st : Jvm.State) : (allAtoms ts).before a st = ts.all (fun c => c.before a st) := by
  induction ts with
  | nil => rfl
  | cons c t ih =>
    show (Jvm.Cond.and c (allAtoms t)).before a st = _
    rw [Jvm.Cond.before_and, ih, List.all_cons]
def words1 : List Jvm.Cond := Jvm.Cond.code x code maxLocals ret :: tables_1
/-- a 'code' word, met by the world's own term for the bytes: nothing is compared byte by byte -/
theorem code_word {y : MethodName} {bytes : ByteArray} {mx : Nat} {rt : Option FieldType} {a : Array Value} {s : State} {m : MethodId} {meth : Method} {c : Code} (h1 : s.methodNamed? y = some m) (h2 : s.vm.method? m = some meth) (h3 : meth.code = some c) (h4 : c.code = bytes)
    (h5 : (c.maxLocals == mx && c.exceptionTable.isEmpty && decide (c.maxStack ≤ mostOperands) && decide (meth.sig.returnType = rt) && !meth.locks && decide (parseMethodDescriptor y.desc = some meth.sig)) = true) : (Jvm.Cond.code y bytes mx rt).before a s = true := by
  simp only [Bool.and_eq_true, beq_iff_eq, Bool.not_eq_true', decide_eq_true_eq] at h5
  obtain ⟨⟨⟨⟨⟨g1, g2⟩, g3⟩, g4⟩, g5⟩, g6⟩ := h5
  simp [Cond.before, Cond.holds, Cond.value, h1, h2, h3, h4, g1, g2, g3, g4, g5, g6]
def isCode : Jvm.Cond → Bool
  | .code _ _ _ _ => true
  | _ => false
theorem all_split {L : List Jvm.Cond} {P : Jvm.Cond → Bool} (h1 : L.all (fun c => isCode c || P c) = true) (h2 : ∀ c ∈ L.filter isCode, P c = true) : L.all P = true := by
  refine List.all_eq_true.mpr fun c hc => ?_
  have h := List.all_eq_true.mp h1 c hc
  rcases Bool.eq_false_or_eq_true (isCode c) with hi | hi
  · exact h2 c (List.mem_filter.mpr ⟨hc, hi⟩)
  · simpa [hi] using h
set_option maxRecDepth 65536 in
theorem w_c0 : (Jvm.Cond.code x code maxLocals ret).before args0 about1 = true := code_word (m := ⟨1, 1⟩) (meth := k1m1) (c := k1c1) (by decide +kernel) rfl rfl rfl (by decide +kernel)
set_option maxRecDepth 65536 in
theorem w_c1 : (Jvm.Cond.code ({ cls := "com/example/zonecast/zonecast/RecordValues", name := "<init>", desc := "()V" } : Jvm.MethodName) prog_90_method_1_code (1 : Nat) (Option.none : Option Jvm.ClassFile.FieldType)).before args0 about1 = true := code_word (m := ⟨2, 0⟩) (meth := k2m0) (c := k2c0) (by decide +kernel) rfl rfl rfl (by decide +kernel)
set_option maxRecDepth 65536 in
theorem w_c2 : (Jvm.Cond.code ({ cls := "java/lang/Object", name := "<init>", desc := "()V" } : Jvm.MethodName) object_method_1_code (1 : Nat) (Option.none : Option Jvm.ClassFile.FieldType)).before args0 about1 = true := code_word (m := ⟨0, 0⟩) (meth := k0m0) (c := k0c0) (by decide +kernel) rfl rfl rfl (by decide +kernel)
set_option maxRecDepth 65536 in
theorem w_c3 : (Jvm.Cond.code ({ cls := "com/example/zonecast/zonecast/RecordValues", name := "next", desc := "()I" } : Jvm.MethodName) prog_90_method_4_code (1 : Nat) (Option.some Jvm.ClassFile.FieldType.int)).before args0 about1 = true := code_word (m := ⟨2, 3⟩) (meth := k2m3) (c := k2c3) (by decide +kernel) rfl rfl rfl (by decide +kernel)
set_option maxRecDepth 65536 in
theorem w_c4 : (Jvm.Cond.code ({ cls := "com/example/zonecast/zonecast/RecordValues", name := "clear", desc := "(III)V" } : Jvm.MethodName) prog_90_method_2_code (4 : Nat) (Option.none : Option Jvm.ClassFile.FieldType)).before args0 about1 = true := code_word (m := ⟨2, 1⟩) (meth := k2m1) (c := k2c1) (by decide +kernel) rfl rfl rfl (by decide +kernel)
set_option maxRecDepth 65536 in
theorem w_c5 : (Jvm.Cond.code ({ cls := "com/example/zonecast/zonecast/RecordValues", name := "add", desc := "(I)V" } : Jvm.MethodName) prog_90_method_3_code (2 : Nat) (Option.none : Option Jvm.ClassFile.FieldType)).before args0 about1 = true := code_word (m := ⟨2, 2⟩) (meth := k2m2) (c := k2c2) (by decide +kernel) rfl rfl rfl (by decide +kernel)
def codes1 : List Jvm.Cond := [Jvm.Cond.code x code maxLocals ret, Jvm.Cond.code ({ cls := "com/example/zonecast/zonecast/RecordValues", name := "<init>", desc := "()V" } : Jvm.MethodName) prog_90_method_1_code (1 : Nat) (Option.none : Option Jvm.ClassFile.FieldType), Jvm.Cond.code ({ cls := "java/lang/Object", name := "<init>", desc := "()V" } : Jvm.MethodName) object_method_1_code (1 : Nat) (Option.none : Option Jvm.ClassFile.FieldType), Jvm.Cond.code ({ cls := "com/example/zonecast/zonecast/RecordValues", name := "next", desc := "()I" } : Jvm.MethodName) prog_90_method_4_code (1 : Nat) (Option.some Jvm.ClassFile.FieldType.int), Jvm.Cond.code ({ cls := "com/example/zonecast/zonecast/RecordValues", name := "clear", desc := "(III)V" } : Jvm.MethodName) prog_90_method_2_code (4 : Nat) (Option.none : Option Jvm.ClassFile.FieldType), Jvm.Cond.code ({ cls := "com/example/zonecast/zonecast/RecordValues", name := "add", desc := "(I)V" } : Jvm.MethodName) prog_90_method_3_code (2 : Nat) (Option.none : Option Jvm.ClassFile.FieldType)]
set_option maxRecDepth 65536 in
theorem codes_eq : words1.filter isCode = codes1 := rfl
theorem w_codes : ∀ c ∈ words1.filter isCode, c.before args0 about1 = true := by
  rw [codes_eq]
  intro c hc
  simp only [codes1, List.mem_cons, List.not_mem_nil, or_false] at hc
  rcases hc with rfl | rfl | rfl | rfl | rfl | rfl
  · exact w_c0
  · exact w_c1
  · exact w_c2
  · exact w_c3
  · exact w_c4
  · exact w_c5
set_option maxRecDepth 65536 in
theorem w_t1 : (words1.take 24).all (fun c => isCode c || c.before args0 about1) = true := by decide +kernel
set_option maxRecDepth 65536 in
theorem w_t2 : (words1.drop 24).all (fun c => isCode c || c.before args0 about1) = true := by decide +kernel
theorem w_tables : (allAtoms (Jvm.Cond.code x code maxLocals ret :: tables_1)).before args0 about1 = true := by
  rw [allAtoms_all]
  show words1.all (fun c => c.before args0 about1) = true
  refine all_split ?_ w_codes
  rw [← List.take_append_drop 24 words1, List.all_append, w_t1, w_t2]
  rfl
set_option maxRecDepth 65536 in
theorem w_case : (Jvm.Cond.and given_1 narrow_1).before args0 about1 = true := by decide +kernel
theorem w_applies : (headSpec (Jvm.Cond.code x code maxLocals ret :: tables_1) room_1).applies x e0.platform about1 = true :=
  (Spec.applies_iff w_frames).mpr ⟨w_running, w_runnable, w_alone, w_named, w_hears, w_ripe, w_room, w_tables⟩
theorem atStart : AtStart classFile x code maxLocals ret World_1 tables_1 room_1 Calls_1 rest_1 Pre_1 launch0 p0 e0 about1 theMethod args0 below0 :=
  ⟨lists_1, trivial, launch0.admits_env _ _ _, launch0.least_env, fairChoices_fair.cas, fairChoices_fair.clock, w_frames, w_args, w_heap, w_applies, trivial, trivial, w_case⟩
end start1
theorem witness_1 : WitnessClaimed_1 := ⟨start1.p0, start1.e0, start1.about1, start1.theMethod, start1.args0, start1.below0, start1.atStart⟩
end Jvm.Pilot.@@N@@
