import JvmDerived
import JvmDerived.Pilot.@@N@@Statement
import JvmDerived.Pilot.@@N@@Code
set_option linter.unusedVariables false
set_option linter.unusedSimpArgs false
@@BLOCK:NumsL.lean.txt@@
namespace Jvm.Pilot.@@N@@
open Jvm Jvm.ClassFile Sem Op Lib Jvm.Free Jvm.Stand Jvm.LawKit Jvm.RoadKit Bundle Jvm.Pilot.@@N@@.Jvm.D
/-- from the state A the run comes to a return of which Q holds -/
def Go (tb : Tables) (e : Env) (below : List Frame) (s : State) (C S : Nat) (Q : Option Value → Heap → List Loc → Prop) (A : State) : Prop :=
  ∃ s₂ o, Steps tb e below A s₂ ∧ s₂.status = .running ∧ Ended s₂ below o ∧ ∃ v L, o = .returned v ∧ Q v s₂.heap L ∧ FrameEnd s o s₂ L C S
theorem go {tb : Tables} {e : Env} {below : List Frame} {s A B : State} {C S : Nat} {Q : Option Value → Heap → List Loc → Prop} (st : ∀ t, Steps tb e below B t → Steps tb e below A t) (h : Go tb e below s C S Q B) : Go tb e below s C S Q A := by
  obtain ⟨s₂, o, h1, h2⟩ := h
  exact ⟨s₂, o, st _ h1, h2⟩
section Rets
variable {p : Program} {l : Launch} {e : Env} {R : Room} {s : State} {m : MethodId} {args : Array Value} {below : List Frame} {meth : Method} {c : Code} {T : State} {locs : List Loc} {cells slots : Nat} {C S : Nat} {Q : Option Value → Heap → List Loc → Prop} {pc : Nat} {Ls : Array Slot} {rest : List Value}
theorem goRetI (X : Stand p l e R s m args below meth c T locs cells slots) (hx : p.tables.exec = Jvm.exec) {z : Int32} (hret : meth.sig.returnType = some .int) (hlk : meth.locks = false) (hd : decode c.code pc = .ok (.ireturn, 1)) (hQ : Q (some (.int z)) T.heap locs) (hc : cells ≤ C) (hs : slots ≤ S) : Go p.tables e below s C S Q (T.setTop (mkF m pc Ls (.int z :: rest))) := by
  obtain ⟨fs, hr, hrun, hended, hW, hsame⟩ := X.leave (v := some (.int z)) (fun h => by rw [hret] at h; cases h) hlk
  exact ⟨_, _, retOut X hx hret rfl (Or.inl ⟨rfl, Or.inl rfl, z, rfl⟩) hd hr, hrun, hended, _, _, rfl, hQ, ⟨_, rfl⟩, hW, hsame.mono hc hs⟩
theorem goRetN (X : Stand p l e R s m args below meth c T locs cells slots) (hx : p.tables.exec = Jvm.exec) {z : Int32} {t : FieldType} (hret : meth.sig.returnType = some t) (ht : t = .boolean ∨ t = .byte ∨ t = .char ∨ t = .short) (hlk : meth.locks = false) (hd : decode c.code pc = .ok (.ireturn, 1)) (hQ : Q (some (.int (nar t z))) T.heap locs) (hc : cells ≤ C) (hs : slots ≤ S) : Go p.tables e below s C S Q (T.setTop (mkF m pc Ls (.int z :: rest))) := by
  obtain ⟨fs, hr, hrun, hended, hW, hsame⟩ := X.leave (v := some (.int (nar t z))) (fun h => by rw [hret] at h; cases h) hlk
  exact ⟨_, _, retN X hx hret ht hd hr, hrun, hended, _, _, rfl, hQ, ⟨_, rfl⟩, hW, hsame.mono hc hs⟩
theorem goRetL (X : Stand p l e R s m args below meth c T locs cells slots) (hx : p.tables.exec = Jvm.exec) {z : Int64} (hret : meth.sig.returnType = some .long) (hlk : meth.locks = false) (hd : decode c.code pc = .ok (.lreturn, 1)) (hQ : Q (some (.long z)) T.heap locs) (hc : cells ≤ C) (hs : slots ≤ S) : Go p.tables e below s C S Q (T.setTop (mkF m pc Ls (.long z :: rest))) := by
  obtain ⟨fs, hr, hrun, hended, hW, hsame⟩ := X.leave (v := some (.long z)) (fun h => by rw [hret] at h; cases h) hlk
  exact ⟨_, _, retOut X hx hret rfl (Or.inr (Or.inl ⟨rfl, rfl, z, rfl⟩)) hd hr, hrun, hended, _, _, rfl, hQ, ⟨_, rfl⟩, hW, hsame.mono hc hs⟩
theorem goRetR (X : Stand p l e R s m args below meth c T locs cells slots) (hx : p.tables.exec = Jvm.exec) {a : Addr} {t : FieldType} (hret : meth.sig.returnType = some t) (ht : t.isReference = true) (hlk : meth.locks = false) (hd : decode c.code pc = .ok (.areturn, 1)) (hQ : Q (some (.ref a)) T.heap locs) (hc : cells ≤ C) (hs : slots ≤ S) : Go p.tables e below s C S Q (T.setTop (mkF m pc Ls (.ref a :: rest))) := by
  obtain ⟨fs, hr, hrun, hended, hW, hsame⟩ := X.leave (v := some (.ref a)) (fun h => by rw [hret] at h; cases h) hlk
  exact ⟨_, _, retOut X hx hret (by cases t <;> first | rfl | cases ht) (Or.inr (Or.inr (Or.inr (Or.inr ⟨rfl, ht, rfl⟩)))) hd hr, hrun, hended, _, _, rfl, hQ, ⟨_, rfl⟩, hW, hsame.mono hc hs⟩
theorem goRetV (X : Stand p l e R s m args below meth c T locs cells slots) (hx : p.tables.exec = Jvm.exec) (hret : meth.sig.returnType = none) (hlk : meth.locks = false) (hd : decode c.code pc = .ok (.return_, 1)) (hQ : Q none T.heap locs) (hc : cells ≤ C) (hs : slots ≤ S) : Go p.tables e below s C S Q (T.setTop (mkF m pc Ls [])) := by
  obtain ⟨fs, hr, hrun, hended, hW, hsame⟩ := X.leave (v := none) (fun _ => rfl) hlk
  exact ⟨_, _, X.returnOut hx hret hd hr, hrun, hended, _, _, rfl, hQ, ⟨_, rfl⟩, hW, hsame.mono hc hs⟩
end Rets
theorem lc_lt_yes {x y : Int64} (h : x < y) : ifCond.holds .lt (lcmpW x y) = true := by
  have h1 : ¬ y < x := by rw [Int64.lt_iff_toInt_lt] at h ⊢; omega
  have h2 : ¬ x = y := fun q => by subst q; rw [Int64.lt_iff_toInt_lt] at h; omega
  simp [lcmpW, h1, h2]; decide
theorem lc_lt_no {x y : Int64} (h : ¬ x < y) : ifCond.holds .lt (lcmpW x y) = false := by
  by_cases h1 : y < x
  · simp [lcmpW, h1]; decide
  · have h2 : x = y := by rw [← Int64.toInt_inj]; rw [Int64.lt_iff_toInt_lt] at h h1; omega
    simp [lcmpW, h1, h2]; decide
theorem lc_ge_no {x y : Int64} (h : x < y) : ifCond.holds .ge (lcmpW x y) = false := by
  have h1 : ¬ y < x := by rw [Int64.lt_iff_toInt_lt] at h ⊢; omega
  have h2 : ¬ x = y := fun q => by subst q; rw [Int64.lt_iff_toInt_lt] at h; omega
  simp [lcmpW, h1, h2]; decide
theorem lc_ge_yes {x y : Int64} (h : ¬ x < y) : ifCond.holds .ge (lcmpW x y) = true := by
  by_cases h1 : y < x
  · simp [lcmpW, h1]; decide
  · have h2 : x = y := by rw [← Int64.toInt_inj]; rw [Int64.lt_iff_toInt_lt] at h h1; omega
    simp [lcmpW, h1, h2]; decide
theorem lc_gt_yes {x y : Int64} (h : y < x) : ifCond.holds .gt (lcmpW x y) = true := by
  simp [lcmpW, h]; decide
theorem lc_gt_no {x y : Int64} (h : ¬ y < x) : ifCond.holds .gt (lcmpW x y) = false := by
  by_cases h2 : x = y <;> simp [lcmpW, h, h2] <;> decide
theorem lc_le_no {x y : Int64} (h : y < x) : ifCond.holds .le (lcmpW x y) = false := by
  simp [lcmpW, h]; decide
theorem lc_le_yes {x y : Int64} (h : ¬ y < x) : ifCond.holds .le (lcmpW x y) = true := by
  by_cases h2 : x = y <;> simp [lcmpW, h, h2] <;> decide
theorem lc_eq_yes {x y : Int64} (h : x = y) : ifCond.holds .eq (lcmpW x y) = true := by
  subst h; simp [lcmpW]; decide
theorem lc_eq_no {x y : Int64} (h : ¬ x = y) : ifCond.holds .eq (lcmpW x y) = false := by
  by_cases h1 : y < x <;> simp [lcmpW, h, h1] <;> decide
theorem lc_ne_no {x y : Int64} (h : x = y) : ifCond.holds .ne (lcmpW x y) = false := by
  subst h; simp [lcmpW]; decide
theorem lc_ne_yes {x y : Int64} (h : ¬ x = y) : ifCond.holds .ne (lcmpW x y) = true := by
  by_cases h1 : y < x <;> simp [lcmpW, h, h1] <;> decide
def fEX (aL : Int64) (bL : Int64) : Int32 := if ((64 : Int64) * bL + 67108864).toInt < aL.toInt then 1 else 0
theorem fEX_one {aL : Int64} {bL : Int64} (h : ((64 : Int64) * bL + 67108864).toInt < aL.toInt) : fEX aL bL = 1 := if_pos h
theorem fEX_zero {aL : Int64} {bL : Int64} (h : ¬ (((64 : Int64) * bL + 67108864).toInt < aL.toInt)) : fEX aL bL = 0 := if_neg h
theorem fEX_int (aL : Int64) (bL : Int64) : ((fEX aL bL).toInt = 1 ∧ (((64 : Int64) * bL + 67108864).toInt < aL.toInt)) ∨ ((fEX aL bL).toInt = 0 ∧ ¬ (((64 : Int64) * bL + 67108864).toInt < aL.toInt)) := by
  by_cases h : ((64 : Int64) * bL + 67108864).toInt < aL.toInt
  · exact Or.inl ⟨by rw [fEX_one h]; rfl, h⟩
  · exact Or.inr ⟨by rw [fEX_zero h]; rfl, h⟩
theorem bound_eq (q : Int64) : (((q &&& (72057594037927935 : Int64)) <<< ((6 : Int32) &&& 0x3f).toInt64) + (67108864 : Int64)).toInt = 64 * (q.toInt % 2 ^ 56) + 67108864 ∧ ((64 : Int64) * (q &&& (72057594037927935 : Int64)) + 67108864).toInt = 64 * (q.toInt % 2 ^ 56) + 67108864 ∧ ((((q &&& (72057594037927935 : Int64)) <<< ((6 : Int32) &&& 0x3f).toInt64) + (67108864 : Int64)) + (1 : Int64)).toInt = 64 * (q.toInt % 2 ^ 56) + 67108865 := by
  have e1 : (q &&& (72057594037927935 : Int64)).toInt = q.toInt % 2 ^ 56 := Jvm.Kit.i64_mask q _ (k := 56) (by decide) (by decide)
  have b1 : (0 : Int) ≤ q.toInt % 2 ^ 56 := by omega
  have b2 : q.toInt % 2 ^ 56 < 2 ^ 56 := by omega
  generalize (q &&& (72057594037927935 : Int64)) = p at *
  generalize q.toInt % 2 ^ 56 = z at *
  have e2 : (p <<< ((6 : Int32) &&& 0x3f).toInt64).toInt = p.toInt * 2 ^ 6 := Jvm.Kit.i64_shl p _ (k := 6) (by decide) (by omega) (by omega)
  have c1 : (67108864 : Int64).toInt = 67108864 := by decide
  have c2 : (64 : Int64).toInt = 64 := by decide
  have c3 : (1 : Int64).toInt = 1 := by decide
  have e3 : ((p <<< ((6 : Int32) &&& 0x3f).toInt64) + (67108864 : Int64)).toInt = p.toInt * 2 ^ 6 + 67108864 := by
    rw [Jvm.Kit.i64_add] <;> rw [e2, c1] <;> omega
  have e4 : ((64 : Int64) * p).toInt = 64 * p.toInt := by rw [Jvm.Kit.i64_mul] <;> rw [c2] <;> omega
  refine ⟨by omega, ?_, ?_⟩
  · rw [Jvm.Kit.i64_add] <;> rw [e4, c1] <;> omega
  · rw [Jvm.Kit.i64_add] <;> rw [e3, c3] <;> omega
theorem pn_com_example_libxfrag_libxfrag_parsing_Amplification : plainName "com/example/libxfrag/libxfrag/parsing/Amplification" = true := by first | (simp [plainName, overriddenIn]; done) | decide +kernel
theorem ef_rm1 (m : MethodId) (q1 : Int64) (q2 : Int64) : entryFrame m #[(.long q1), (.long q2)] 4 = mkF m 0 #[.val (.long q1), .second, .val (.long q2), .second] [] := by first | (simp [entryFrame, mkF, argsToLocals, Value.category]; done) | rfl
def Q1 (Z : State) (q1 : Int64) (q2 : Int64) (h0 : Heap) (n0 : Nat) (v : Option Value) (h : Heap) (L : List Loc) : Prop := v = some (.int (fEX q1 q2)) ∧ Fr n0 L ∧ h = h0
theorem d1_0 : decode prog_107_method_2_code 0 = .ok (.lload_n 0, 1) := by decide +kernel
theorem d1_1 : decode prog_107_method_2_code 1 = .ok (.ldc2_w 9, 3) := by decide +kernel
theorem d1_4 : decode prog_107_method_2_code 4 = .ok (.lload_n 2, 1) := by decide +kernel
theorem d1_5 : decode prog_107_method_2_code 5 = .ok (.lmul, 1) := by decide +kernel
theorem d1_6 : decode prog_107_method_2_code 6 = .ok (.ldc2_w 11, 3) := by decide +kernel
theorem d1_9 : decode prog_107_method_2_code 9 = .ok (.ladd, 1) := by decide +kernel
theorem d1_10 : decode prog_107_method_2_code 10 = .ok (.lcmp, 1) := by decide +kernel
theorem d1_11 : decode prog_107_method_2_code 11 = .ok (.ifCond .le 7, 3) := by decide +kernel
theorem d1_14 : decode prog_107_method_2_code 14 = .ok (.iconst 1, 1) := by decide +kernel
theorem d1_15 : decode prog_107_method_2_code 15 = .ok (.goto 4, 3) := by decide +kernel
theorem d1_19 : decode prog_107_method_2_code 19 = .ok (.ireturn, 1) := by decide +kernel
theorem d1_18 : decode prog_107_method_2_code 18 = .ok (.iconst 0, 1) := by decide +kernel
set_option maxRecDepth 65536 in
set_option maxHeartbeats 40000000 in
theorem rm1 (l : Launch) (Z : State) (a0 : Array Value) (hw : ∀ d ∈ tables_1, d.before a0 Z = true) (ws : List Jvm.Cond) (q1 : Int64) (q2 : Int64) (h0 : Heap) (n0 : Nat) (Z0 : n0 ≤ h0.size) :
    MetFree l (⟨"com/example/libxfrag/libxfrag/parsing/Amplification", "exceeds", "(JJ)Z"⟩ : MethodName) (head1 (Jvm.Cond.code (⟨"com/example/libxfrag/libxfrag/parsing/Amplification", "exceeds", "(JJ)Z"⟩ : MethodName) prog_107_method_2_code 4 (some .boolean) :: ws) ({ frames := 0, cells := 0, slots := 0, locals := 0 } : Room)) (fun a U => a = #[(.long q1), (.long q2)] ∧ Z.Warmed39 U.vm ∧ U.heap = h0) (fun _ _ _ _ _ => True) (fun _ U o U' => ∃ v L, o = .returned v ∧ Q1 Z q1 q2 h0 n0 v U'.heap L ∧ FrameEnd U o U' L ({ frames := 0, cells := 0, slots := 0, locals := 0 } : Room).cells ({ frames := 0, cells := 0, slots := 0, locals := 0 } : Room).slots) := by
  refine MetFree.of_bodySF (plainFor_of_name pn_com_example_libxfrag_libxfrag_parsing_Amplification) hisR ?_
  intro p e s m args below meth c s₁ Bd hml0 hP hK
  obtain ⟨rfl, hZ, hh⟩ := hP
  have hx := Bd.exec
  have hby := Bd.bytes
  have hml : c.maxLocals = 4 := hml0
  have hown : s.vm.findClass "com/example/libxfrag/libxfrag/parsing/Amplification" = some m.cls := findClass_of_methodNamed Bd.named
  have hnm := (name_of_methodNamed Bd.named Bd.method).1
  have hlk := Bd.notSynchronized
  have X0 : Stand p l e ({ frames := 0, cells := 0, slots := 0, locals := 0 } : Room) s m #[(.long q1), (.long q2)] below meth c s₁ [] 0 0 := Stand.of_body Bd
  have e0 : s₁.heap = h0 := by rw [← hh, Bd.state]; rfl
  have N0 := Fr.nil n0
  show Go p.tables e below s ({ frames := 0, cells := 0, slots := 0, locals := 0 } : Room).cells ({ frames := 0, cells := 0, slots := 0, locals := 0 } : Room).slots (Q1 Z q1 q2 h0 n0) _
  refine go (fun t k => castTop (ef_rm1 m q1 q2) k) ?_
  refine go (B := s₁.setTop (mkF m 1 #[.val (.long q1), .second, .val (.long q2), .second] [(.long q1)])) (fun _ k => XS.lloadN X0.here hx rfl (hb hby d1_0) rfl k) ?_
  refine go (B := s₁.setTop (mkF m 4 #[.val (.long q1), .second, .val (.long q2), .second] [(.long (64 : Int64)), (.long q1)])) (fun _ k => X0.ldc2Long hx hown (mvT hZ (hw _ (List.mem_of_getElem? (i := 6) rfl))) (g := (mkF m 1 #[.val (.long q1), .second, .val (.long q2), .second] [(.long q1)])) rfl (hb hby d1_1) _ k) ?_
  refine go (B := s₁.setTop (mkF m 5 #[.val (.long q1), .second, .val (.long q2), .second] [(.long q2), (.long (64 : Int64)), (.long q1)])) (fun _ k => XS.lloadN X0.here hx rfl (hb hby d1_4) rfl k) ?_
  refine go (B := s₁.setTop (mkF m 6 #[.val (.long q1), .second, .val (.long q2), .second] [(.long ((64 : Int64) * q2)), (.long q1)])) (fun _ k => XS.lmul X0.here hx rfl (hb hby d1_5) rfl k) ?_
  refine go (B := s₁.setTop (mkF m 9 #[.val (.long q1), .second, .val (.long q2), .second] [(.long (67108864 : Int64)), (.long ((64 : Int64) * q2)), (.long q1)])) (fun _ k => X0.ldc2Long hx hown (mvT hZ (hw _ (List.mem_of_getElem? (i := 7) rfl))) (g := (mkF m 6 #[.val (.long q1), .second, .val (.long q2), .second] [(.long ((64 : Int64) * q2)), (.long q1)])) rfl (hb hby d1_6) _ k) ?_
  refine go (B := s₁.setTop (mkF m 10 #[.val (.long q1), .second, .val (.long q2), .second] [(.long (((64 : Int64) * q2) + (67108864 : Int64))), (.long q1)])) (fun _ k => XS.ladd X0.here hx rfl (hb hby d1_9) rfl k) ?_
  refine go (B := s₁.setTop (mkF m 11 #[.val (.long q1), .second, .val (.long q2), .second] [(.int (lcmpW q1 (((64 : Int64) * q2) + (67108864 : Int64))))])) (fun _ k => XS.lcmp X0.here hx rfl (hb hby d1_10) rfl k) ?_
  by_cases hc11 : (((64 : Int64) * q2) + (67108864 : Int64)) < q1
  · refine go (B := s₁.setTop (mkF m 14 #[.val (.long q1), .second, .val (.long q2), .second] [])) (fun _ k => XS.ifNo X0.here hx rfl (hb hby d1_11) rfl (lc_le_no hc11) k) ?_
    refine go (B := s₁.setTop (mkF m 15 #[.val (.long q1), .second, .val (.long q2), .second] [(.int (1 : Int32))])) (fun _ k => XS.iconst X0.here hx rfl (hb hby d1_14) k) ?_
    refine go (B := s₁.setTop (mkF m 19 #[.val (.long q1), .second, .val (.long q2), .second] [(.int (1 : Int32))])) (fun _ k => XS.goto X0.here hx rfl (pc0 := 15) (pc' := 19) rfl (hb hby d1_15) (by decide) (by decide) k) ?_
    refine goRetN X0 hx (t := .boolean) Bd.returns (by simp) hlk (hb hby d1_19) ?_ (by decide) (by decide)
    rw [e0]
    have q : fEX q1 q2 = (1 : Int32) := fEX_one (by simp only [Int32.lt_iff_toInt_lt, Int64.lt_iff_toInt_lt, ← Int32.toInt_inj, ← Int64.toInt_inj, Int32.reduceToInt, Int64.reduceToInt] at hc11; omega)
    exact ⟨by rw [q]; rfl, N0, rfl⟩
  · refine go (B := s₁.setTop (mkF m 18 #[.val (.long q1), .second, .val (.long q2), .second] [])) (fun _ k => XS.ifYes X0.here hx rfl (pc0 := 11) (pc' := 18) rfl (hb hby d1_11) rfl (lc_le_yes hc11) (by decide) (by decide) k) ?_
    refine go (B := s₁.setTop (mkF m 19 #[.val (.long q1), .second, .val (.long q2), .second] [(.int (0 : Int32))])) (fun _ k => XS.iconst X0.here hx rfl (hb hby d1_18) k) ?_
    refine goRetN X0 hx (t := .boolean) Bd.returns (by simp) hlk (hb hby d1_19) ?_ (by decide) (by decide)
    rw [e0]
    have q : fEX q1 q2 = (0 : Int32) := fEX_zero (by simp only [Int32.lt_iff_toInt_lt, Int64.lt_iff_toInt_lt, ← Int32.toInt_inj, ← Int64.toInt_inj, Int32.reduceToInt, Int64.reduceToInt] at hc11; omega)
    exact ⟨by rw [q]; rfl, N0, rfl⟩
theorem pn_com_example_libxfrag_libxfrag_parsing_AmplificationExceedsPinLaw : plainName "com/example/libxfrag/libxfrag/parsing/AmplificationExceedsPinLaw" = true := by first | (simp [plainName, overriddenIn]; done) | decide +kernel
theorem ef_rm0 (m : MethodId) (q1 : Int64) (q2 : Int64) : entryFrame m #[(.long q1), (.long q2)] maxLocals = mkF m 0 #[.val (.long q1), .second, .val (.long q2), .second, .unset, .unset, .unset, .unset, .unset, .unset, .unset] [] := by first | (simp [entryFrame, mkF, argsToLocals, Value.category, maxLocals]; done) | rfl
def Q0 (Z : State) (q1 : Int64) (q2 : Int64) (h0 : Heap) (n0 : Nat) (v : Option Value) (h : Heap) (L : List Loc) : Prop := v = some (.int 1) ∧ Fr n0 L
theorem pd__JJ_Z : parseMethodDescriptor "(JJ)Z" = some ⟨[.long, .long], some .boolean⟩ := by decide +kernel
set_option maxRecDepth 65536 in
set_option maxHeartbeats 40000000 in
theorem rm0 (l : Launch) (Z : State) (a0 : Array Value) (hw : ∀ d ∈ tables_1, d.before a0 Z = true) (ws : List Jvm.Cond) (q1 : Int64) (q2 : Int64) (h0 : Heap) (n0 : Nat) (Z0 : n0 ≤ h0.size) :
    MetFree l x (head1 (Jvm.Cond.code x code maxLocals ret :: ws) room_1) (fun a U => a = #[(.long q1), (.long q2)] ∧ Z.Warmed39 U.vm ∧ U.heap = h0) (fun _ _ _ _ _ => True) (fun _ U o U' => ∃ v L, o = .returned v ∧ Q0 Z q1 q2 h0 n0 v U'.heap L ∧ FrameEnd U o U' L room_1.cells room_1.slots) := by
  refine MetFree.of_bodySF (plainFor_of_name pn_com_example_libxfrag_libxfrag_parsing_AmplificationExceedsPinLaw) hisR ?_
  intro p e s m args below meth c s₁ Bd hml0 hP hK
  obtain ⟨rfl, hZ, hh⟩ := hP
  have hx := Bd.exec
  have hby := Bd.bytes
  have hml : c.maxLocals = 11 := hml0
  have hown : s.vm.findClass "com/example/libxfrag/libxfrag/parsing/AmplificationExceedsPinLaw" = some m.cls := findClass_of_methodNamed Bd.named
  have hnm := (name_of_methodNamed Bd.named Bd.method).1
  have hlk := Bd.notSynchronized
  have X0 : Stand p l e room_1 s m #[(.long q1), (.long q2)] below meth c s₁ [] 0 0 := Stand.of_body Bd
  have e0 : s₁.heap = h0 := by rw [← hh, Bd.state]; rfl
  have N0 := Fr.nil n0
  show Go p.tables e below s room_1.cells room_1.slots (Q0 Z q1 q2 h0 n0) _
  refine go (fun t k => castTop (ef_rm0 m q1 q2) k) ?_
  refine go (B := s₁.setTop (mkF m 1 #[.val (.long q1), .second, .val (.long q2), .second, .unset, .unset, .unset, .unset, .unset, .unset, .unset] [(.long q2)])) (fun _ k => XS.lloadN X0.here hx rfl (hb hby at_0) rfl k) ?_
  refine go (B := s₁.setTop (mkF m 4 #[.val (.long q1), .second, .val (.long q2), .second, .unset, .unset, .unset, .unset, .unset, .unset, .unset] [(.long (72057594037927935 : Int64)), (.long q2)])) (fun _ k => X0.ldc2Long hx hown (mvT hZ (hw _ (List.mem_of_getElem? (i := 0) rfl))) (g := (mkF m 1 #[.val (.long q1), .second, .val (.long q2), .second, .unset, .unset, .unset, .unset, .unset, .unset, .unset] [(.long q2)])) rfl (hb hby at_1) _ k) ?_
  refine go (B := s₁.setTop (mkF m 5 #[.val (.long q1), .second, .val (.long q2), .second, .unset, .unset, .unset, .unset, .unset, .unset, .unset] [(.long (q2 &&& (72057594037927935 : Int64)))])) (fun _ k => XS.land X0.here hx rfl (hb hby at_4) rfl k) ?_
  refine go (B := s₁.setTop (mkF m 7 #[.val (.long q1), .second, .val (.long q2), .second, .val (.long (q2 &&& (72057594037927935 : Int64))), .second, .unset, .unset, .unset, .unset, .unset] [])) (fun _ k => XS.lstore X0.here hx rfl (hb hby at_5) rfl (l' := #[.val (.long q1), .second, .val (.long q2), .second, .val (.long (q2 &&& (72057594037927935 : Int64))), .second, .unset, .unset, .unset, .unset, .unset]) rfl k) ?_
  obtain ⟨P, q_P⟩ : ∃ z, z = (q2 &&& (72057594037927935 : Int64)) := ⟨_, rfl⟩
  rw [← q_P]
  have u := bound_eq q2
  rw [← q_P] at u
  refine go (B := s₁.setTop (mkF m 9 #[.val (.long q1), .second, .val (.long q2), .second, .val (.long P), .second, .unset, .unset, .unset, .unset, .unset] [(.long P)])) (fun _ k => XS.lload X0.here hx rfl (hb hby at_7) rfl k) ?_
  refine go (B := s₁.setTop (mkF m 11 #[.val (.long q1), .second, .val (.long q2), .second, .val (.long P), .second, .unset, .unset, .unset, .unset, .unset] [(.int (6 : Int32)), (.long P)])) (fun _ k => XS.bipush X0.here hx rfl (hb hby at_9) k) ?_
  refine go (B := s₁.setTop (mkF m 12 #[.val (.long q1), .second, .val (.long q2), .second, .val (.long P), .second, .unset, .unset, .unset, .unset, .unset] [(.long (P <<< ((6 : Int32) &&& 0x3f).toInt64))])) (fun _ k => XS.lshl X0.here hx rfl (hb hby at_11) rfl k) ?_
  refine go (B := s₁.setTop (mkF m 15 #[.val (.long q1), .second, .val (.long q2), .second, .val (.long P), .second, .unset, .unset, .unset, .unset, .unset] [(.long (67108864 : Int64)), (.long (P <<< ((6 : Int32) &&& 0x3f).toInt64))])) (fun _ k => X0.ldc2Long hx hown (mvT hZ (hw _ (List.mem_of_getElem? (i := 1) rfl))) (g := (mkF m 12 #[.val (.long q1), .second, .val (.long q2), .second, .val (.long P), .second, .unset, .unset, .unset, .unset, .unset] [(.long (P <<< ((6 : Int32) &&& 0x3f).toInt64))])) rfl (hb hby at_12) _ k) ?_
  refine go (B := s₁.setTop (mkF m 16 #[.val (.long q1), .second, .val (.long q2), .second, .val (.long P), .second, .unset, .unset, .unset, .unset, .unset] [(.long ((P <<< ((6 : Int32) &&& 0x3f).toInt64) + (67108864 : Int64)))])) (fun _ k => XS.ladd X0.here hx rfl (hb hby at_15) rfl k) ?_
  refine go (B := s₁.setTop (mkF m 18 #[.val (.long q1), .second, .val (.long q2), .second, .val (.long P), .second, .val (.long ((P <<< ((6 : Int32) &&& 0x3f).toInt64) + (67108864 : Int64))), .second, .unset, .unset, .unset] [])) (fun _ k => XS.lstore X0.here hx rfl (hb hby at_16) rfl (l' := #[.val (.long q1), .second, .val (.long q2), .second, .val (.long P), .second, .val (.long ((P <<< ((6 : Int32) &&& 0x3f).toInt64) + (67108864 : Int64))), .second, .unset, .unset, .unset]) rfl k) ?_
  obtain ⟨B, q_B⟩ : ∃ z, z = ((P <<< ((6 : Int32) &&& 0x3f).toInt64) + (67108864 : Int64)) := ⟨_, rfl⟩
  rw [← q_B]
  rw [← q_B] at u
  obtain ⟨u1, u2, u3⟩ := u
  generalize q2.toInt % 2 ^ 56 = zz at u1 u2 u3
  refine go (B := s₁.setTop (mkF m 20 #[.val (.long q1), .second, .val (.long q2), .second, .val (.long P), .second, .val (.long B), .second, .unset, .unset, .unset] [(.long B)])) (fun _ k => XS.lload X0.here hx rfl (hb hby at_18) rfl k) ?_
  refine go (B := s₁.setTop (mkF m 22 #[.val (.long q1), .second, .val (.long q2), .second, .val (.long P), .second, .val (.long B), .second, .unset, .unset, .unset] [(.long P), (.long B)])) (fun _ k => XS.lload X0.here hx rfl (hb hby at_20) rfl k) ?_
  obtain ⟨_, _, ⟨T1, L1, k1, n1⟩, -, X1, ⟨Lc1, hQ1, l1, y1, z1⟩, st1⟩ := Jvm.LawKit.callS X0 hx (y := (⟨"com/example/libxfrag/libxfrag/parsing/Amplification", "exceeds", "(JJ)Z"⟩ : MethodName)) hown (mvT hZ (hw _ (List.mem_of_getElem? (i := 2) rfl))) (mvT hZ (hw _ (List.mem_of_getElem? (i := 3) rfl))) (mvT hZ (hw _ (List.mem_of_getElem? (i := 4) rfl))) (mvT hZ (hw _ (List.mem_of_getElem? (i := 5) rfl))) (by decide) (backOf (W := 0) (rm1 l Z a0 hw [] B P h0 n0 Z0) hZ (hw _ (List.mem_of_getElem? (i := 5) rfl)) (hw _ (List.mem_of_getElem? (i := 4) rfl)) (by decide) (by decide)) (g := (mkF m 22 #[.val (.long q1), .second, .val (.long q2), .second, .val (.long P), .second, .val (.long B), .second, .unset, .unset, .unset] [(.long P), (.long B)])) rfl (by rw [hml]; rfl) (argsL := [(.long B), (.long P)]) (rest := []) (lenOf pd__JJ_Z rfl) rfl (by show 2 * 0 + _ ≤ _; exact Nat.le_of_eq rfl) (hb hby at_22) (fun _ _ => ⟨rfl, e0, (by decide : 0 + 0 ≤ _), (by decide : 0 + 0 ≤ _)⟩)
  dsimp only [Pt.U, Pt.locs, Pt.cells, Pt.slots] at X1 l1 y1 z1 st1 hQ1
  subst l1 y1 z1
  obtain ⟨rfl, N1q, e1⟩ := hQ1
  have N1 := Fr.app N0 N1q
  refine go (B := T1.setTop (mkF m 25 #[.val (.long q1), .second, .val (.long q2), .second, .val (.long P), .second, .val (.long B), .second, .unset, .unset, .unset] [(.int (fEX B P))])) (fun _ k => st1 _ k) ?_
  refine go (B := T1.setTop (mkF m 27 #[.val (.long q1), .second, .val (.long q2), .second, .val (.long P), .second, .val (.long B), .second, .val (.int (fEX B P)), .unset, .unset] [])) (fun _ k => XS.istore X1.here hx rfl (hb hby at_25) rfl (l' := #[.val (.long q1), .second, .val (.long q2), .second, .val (.long P), .second, .val (.long B), .second, .val (.int (fEX B P)), .unset, .unset]) rfl k) ?_
  refine go (B := T1.setTop (mkF m 29 #[.val (.long q1), .second, .val (.long q2), .second, .val (.long P), .second, .val (.long B), .second, .val (.int (fEX B P)), .unset, .unset] [(.long B)])) (fun _ k => XS.lload X1.here hx rfl (hb hby at_27) rfl k) ?_
  refine go (B := T1.setTop (mkF m 30 #[.val (.long q1), .second, .val (.long q2), .second, .val (.long P), .second, .val (.long B), .second, .val (.int (fEX B P)), .unset, .unset] [(.long (1 : Int64)), (.long B)])) (fun _ k => XS.lconst X1.here hx rfl (hb hby at_29) k) ?_
  refine go (B := T1.setTop (mkF m 31 #[.val (.long q1), .second, .val (.long q2), .second, .val (.long P), .second, .val (.long B), .second, .val (.int (fEX B P)), .unset, .unset] [(.long (B + (1 : Int64)))])) (fun _ k => XS.ladd X1.here hx rfl (hb hby at_30) rfl k) ?_
  refine go (B := T1.setTop (mkF m 33 #[.val (.long q1), .second, .val (.long q2), .second, .val (.long P), .second, .val (.long B), .second, .val (.int (fEX B P)), .unset, .unset] [(.long P), (.long (B + (1 : Int64)))])) (fun _ k => XS.lload X1.here hx rfl (hb hby at_31) rfl k) ?_
  obtain ⟨_, _, ⟨T2, L2, k2, n2⟩, -, X2, ⟨Lc2, hQ2, l2, y2, z2⟩, st2⟩ := Jvm.LawKit.callS X1 hx (y := (⟨"com/example/libxfrag/libxfrag/parsing/Amplification", "exceeds", "(JJ)Z"⟩ : MethodName)) hown (mvT hZ (hw _ (List.mem_of_getElem? (i := 2) rfl))) (mvT hZ (hw _ (List.mem_of_getElem? (i := 3) rfl))) (mvT hZ (hw _ (List.mem_of_getElem? (i := 4) rfl))) (mvT hZ (hw _ (List.mem_of_getElem? (i := 5) rfl))) (by decide) (backOf (W := 0) (rm1 l Z a0 hw [] (B + (1 : Int64)) P h0 n0 Z0) hZ (hw _ (List.mem_of_getElem? (i := 5) rfl)) (hw _ (List.mem_of_getElem? (i := 4) rfl)) (by decide) (by decide)) (g := (mkF m 33 #[.val (.long q1), .second, .val (.long q2), .second, .val (.long P), .second, .val (.long B), .second, .val (.int (fEX B P)), .unset, .unset] [(.long P), (.long (B + (1 : Int64)))])) rfl (by rw [hml]; rfl) (argsL := [(.long (B + (1 : Int64))), (.long P)]) (rest := []) (lenOf pd__JJ_Z rfl) rfl (by show 2 * 0 + _ ≤ _; exact Nat.le_of_eq rfl) (hb hby at_33) (fun _ _ => ⟨rfl, e1, (by decide : 0 + 0 ≤ _), (by decide : 0 + 0 ≤ _)⟩)
  dsimp only [Pt.U, Pt.locs, Pt.cells, Pt.slots] at X2 l2 y2 z2 st2 hQ2
  subst l2 y2 z2
  obtain ⟨rfl, N2q, e2⟩ := hQ2
  have N2 := Fr.app N1 N2q
  refine go (B := T2.setTop (mkF m 36 #[.val (.long q1), .second, .val (.long q2), .second, .val (.long P), .second, .val (.long B), .second, .val (.int (fEX B P)), .unset, .unset] [(.int (fEX (B + (1 : Int64)) P))])) (fun _ k => st2 _ k) ?_
  refine go (B := T2.setTop (mkF m 38 #[.val (.long q1), .second, .val (.long q2), .second, .val (.long P), .second, .val (.long B), .second, .val (.int (fEX B P)), .val (.int (fEX (B + (1 : Int64)) P)), .unset] [])) (fun _ k => XS.istore X2.here hx rfl (hb hby at_36) rfl (l' := #[.val (.long q1), .second, .val (.long q2), .second, .val (.long P), .second, .val (.long B), .second, .val (.int (fEX B P)), .val (.int (fEX (B + (1 : Int64)) P)), .unset]) rfl k) ?_
  refine go (B := T2.setTop (mkF m 39 #[.val (.long q1), .second, .val (.long q2), .second, .val (.long P), .second, .val (.long B), .second, .val (.int (fEX B P)), .val (.int (fEX (B + (1 : Int64)) P)), .unset] [(.long q1)])) (fun _ k => XS.lloadN X2.here hx rfl (hb hby at_38) rfl k) ?_
  refine go (B := T2.setTop (mkF m 41 #[.val (.long q1), .second, .val (.long q2), .second, .val (.long P), .second, .val (.long B), .second, .val (.int (fEX B P)), .val (.int (fEX (B + (1 : Int64)) P)), .unset] [(.long P), (.long q1)])) (fun _ k => XS.lload X2.here hx rfl (hb hby at_39) rfl k) ?_
  obtain ⟨_, _, ⟨T3, L3, k3, n3⟩, -, X3, ⟨Lc3, hQ3, l3, y3, z3⟩, st3⟩ := Jvm.LawKit.callS X2 hx (y := (⟨"com/example/libxfrag/libxfrag/parsing/Amplification", "exceeds", "(JJ)Z"⟩ : MethodName)) hown (mvT hZ (hw _ (List.mem_of_getElem? (i := 2) rfl))) (mvT hZ (hw _ (List.mem_of_getElem? (i := 3) rfl))) (mvT hZ (hw _ (List.mem_of_getElem? (i := 4) rfl))) (mvT hZ (hw _ (List.mem_of_getElem? (i := 5) rfl))) (by decide) (backOf (W := 0) (rm1 l Z a0 hw [] q1 P h0 n0 Z0) hZ (hw _ (List.mem_of_getElem? (i := 5) rfl)) (hw _ (List.mem_of_getElem? (i := 4) rfl)) (by decide) (by decide)) (g := (mkF m 41 #[.val (.long q1), .second, .val (.long q2), .second, .val (.long P), .second, .val (.long B), .second, .val (.int (fEX B P)), .val (.int (fEX (B + (1 : Int64)) P)), .unset] [(.long P), (.long q1)])) rfl (by rw [hml]; rfl) (argsL := [(.long q1), (.long P)]) (rest := []) (lenOf pd__JJ_Z rfl) rfl (by show 2 * 0 + _ ≤ _; exact Nat.le_of_eq rfl) (hb hby at_41) (fun _ _ => ⟨rfl, e2, (by decide : 0 + 0 ≤ _), (by decide : 0 + 0 ≤ _)⟩)
  dsimp only [Pt.U, Pt.locs, Pt.cells, Pt.slots] at X3 l3 y3 z3 st3 hQ3
  subst l3 y3 z3
  obtain ⟨rfl, N3q, e3⟩ := hQ3
  have N3 := Fr.app N2 N3q
  refine go (B := T3.setTop (mkF m 44 #[.val (.long q1), .second, .val (.long q2), .second, .val (.long P), .second, .val (.long B), .second, .val (.int (fEX B P)), .val (.int (fEX (B + (1 : Int64)) P)), .unset] [(.int (fEX q1 P))])) (fun _ k => st3 _ k) ?_
  refine go (B := T3.setTop (mkF m 46 #[.val (.long q1), .second, .val (.long q2), .second, .val (.long P), .second, .val (.long B), .second, .val (.int (fEX B P)), .val (.int (fEX (B + (1 : Int64)) P)), .val (.int (fEX q1 P))] [])) (fun _ k => XS.istore X3.here hx rfl (hb hby at_44) rfl (l' := #[.val (.long q1), .second, .val (.long q2), .second, .val (.long P), .second, .val (.long B), .second, .val (.int (fEX B P)), .val (.int (fEX (B + (1 : Int64)) P)), .val (.int (fEX q1 P))]) rfl k) ?_
  refine go (B := T3.setTop (mkF m 48 #[.val (.long q1), .second, .val (.long q2), .second, .val (.long P), .second, .val (.long B), .second, .val (.int (fEX B P)), .val (.int (fEX (B + (1 : Int64)) P)), .val (.int (fEX q1 P))] [(.int (fEX B P))])) (fun _ k => XS.iload X3.here hx rfl (hb hby at_46) rfl k) ?_
  by_cases hc48 : (fEX B P) = (0 : Int32)
  · refine go (B := T3.setTop (mkF m 51 #[.val (.long q1), .second, .val (.long q2), .second, .val (.long P), .second, .val (.long B), .second, .val (.int (fEX B P)), .val (.int (fEX (B + (1 : Int64)) P)), .val (.int (fEX q1 P))] [])) (fun _ k => XS.ifNo X3.here hx rfl (hb hby at_48) rfl ((if0 _ _).trans (teq hc48).2) k) ?_
    refine go (B := T3.setTop (mkF m 53 #[.val (.long q1), .second, .val (.long q2), .second, .val (.long P), .second, .val (.long B), .second, .val (.int (fEX B P)), .val (.int (fEX (B + (1 : Int64)) P)), .val (.int (fEX q1 P))] [(.int (fEX (B + (1 : Int64)) P))])) (fun _ k => XS.iload X3.here hx rfl (hb hby at_51) rfl k) ?_
    by_cases hc53 : (fEX (B + (1 : Int64)) P) = (0 : Int32)
    · refine go (B := T3.setTop (mkF m 77 #[.val (.long q1), .second, .val (.long q2), .second, .val (.long P), .second, .val (.long B), .second, .val (.int (fEX B P)), .val (.int (fEX (B + (1 : Int64)) P)), .val (.int (fEX q1 P))] [])) (fun _ k => XS.ifYes X3.here hx rfl (pc0 := 53) (pc' := 77) rfl (hb hby at_53) rfl ((if0 _ _).trans (teq hc53).1) (by decide) (by decide) k) ?_
      refine go (B := T3.setTop (mkF m 78 #[.val (.long q1), .second, .val (.long q2), .second, .val (.long P), .second, .val (.long B), .second, .val (.int (fEX B P)), .val (.int (fEX (B + (1 : Int64)) P)), .val (.int (fEX q1 P))] [(.int (0 : Int32))])) (fun _ k => XS.iconst X3.here hx rfl (hb hby at_77) k) ?_
      refine goRetN X3 hx (t := .boolean) Bd.returns (by simp) hlk (hb hby at_78) ?_ (by decide) (by decide)
      rw [e3]
      exfalso
      have q1_ := fEX_int B P
      have q2_ := fEX_int (B + (1 : Int64)) P
      have q3_ := fEX_int q1 P
      simp only [Int32.lt_iff_toInt_lt, Int64.lt_iff_toInt_lt, ← Int32.toInt_inj, ← Int64.toInt_inj, Int32.reduceToInt, Int64.reduceToInt] at  hc48 hc53
      omega
    · refine go (B := T3.setTop (mkF m 56 #[.val (.long q1), .second, .val (.long q2), .second, .val (.long P), .second, .val (.long B), .second, .val (.int (fEX B P)), .val (.int (fEX (B + (1 : Int64)) P)), .val (.int (fEX q1 P))] [])) (fun _ k => XS.ifNo X3.here hx rfl (hb hby at_53) rfl ((if0 _ _).trans (feq hc53).1) k) ?_
      refine go (B := T3.setTop (mkF m 58 #[.val (.long q1), .second, .val (.long q2), .second, .val (.long P), .second, .val (.long B), .second, .val (.int (fEX B P)), .val (.int (fEX (B + (1 : Int64)) P)), .val (.int (fEX q1 P))] [(.int (fEX q1 P))])) (fun _ k => XS.iload X3.here hx rfl (hb hby at_56) rfl k) ?_
      refine go (B := T3.setTop (mkF m 59 #[.val (.long q1), .second, .val (.long q2), .second, .val (.long P), .second, .val (.long B), .second, .val (.int (fEX B P)), .val (.int (fEX (B + (1 : Int64)) P)), .val (.int (fEX q1 P))] [(.long q1), (.int (fEX q1 P))])) (fun _ k => XS.lloadN X3.here hx rfl (hb hby at_58) rfl k) ?_
      refine go (B := T3.setTop (mkF m 61 #[.val (.long q1), .second, .val (.long q2), .second, .val (.long P), .second, .val (.long B), .second, .val (.int (fEX B P)), .val (.int (fEX (B + (1 : Int64)) P)), .val (.int (fEX q1 P))] [(.long B), (.long q1), (.int (fEX q1 P))])) (fun _ k => XS.lload X3.here hx rfl (hb hby at_59) rfl k) ?_
      refine go (B := T3.setTop (mkF m 62 #[.val (.long q1), .second, .val (.long q2), .second, .val (.long P), .second, .val (.long B), .second, .val (.int (fEX B P)), .val (.int (fEX (B + (1 : Int64)) P)), .val (.int (fEX q1 P))] [(.int (lcmpW q1 B)), (.int (fEX q1 P))])) (fun _ k => XS.lcmp X3.here hx rfl (hb hby at_61) rfl k) ?_
      by_cases hc62 : B < q1
      · refine go (B := T3.setTop (mkF m 65 #[.val (.long q1), .second, .val (.long q2), .second, .val (.long P), .second, .val (.long B), .second, .val (.int (fEX B P)), .val (.int (fEX (B + (1 : Int64)) P)), .val (.int (fEX q1 P))] [(.int (fEX q1 P))])) (fun _ k => XS.ifNo X3.here hx rfl (hb hby at_62) rfl (lc_le_no hc62) k) ?_
        refine go (B := T3.setTop (mkF m 66 #[.val (.long q1), .second, .val (.long q2), .second, .val (.long P), .second, .val (.long B), .second, .val (.int (fEX B P)), .val (.int (fEX (B + (1 : Int64)) P)), .val (.int (fEX q1 P))] [(.int (1 : Int32)), (.int (fEX q1 P))])) (fun _ k => XS.iconst X3.here hx rfl (hb hby at_65) k) ?_
        refine go (B := T3.setTop (mkF m 70 #[.val (.long q1), .second, .val (.long q2), .second, .val (.long P), .second, .val (.long B), .second, .val (.int (fEX B P)), .val (.int (fEX (B + (1 : Int64)) P)), .val (.int (fEX q1 P))] [(.int (1 : Int32)), (.int (fEX q1 P))])) (fun _ k => XS.goto X3.here hx rfl (pc0 := 66) (pc' := 70) rfl (hb hby at_66) (by decide) (by decide) k) ?_
        by_cases hc70 : (fEX q1 P) = (1 : Int32)
        · refine go (B := T3.setTop (mkF m 73 #[.val (.long q1), .second, .val (.long q2), .second, .val (.long P), .second, .val (.long B), .second, .val (.int (fEX B P)), .val (.int (fEX (B + (1 : Int64)) P)), .val (.int (fEX q1 P))] [])) (fun _ k => XS.icmpNo X3.here hx rfl (hb hby at_70) rfl (teq hc70).2 k) ?_
          refine go (B := T3.setTop (mkF m 74 #[.val (.long q1), .second, .val (.long q2), .second, .val (.long P), .second, .val (.long B), .second, .val (.int (fEX B P)), .val (.int (fEX (B + (1 : Int64)) P)), .val (.int (fEX q1 P))] [(.int (1 : Int32))])) (fun _ k => XS.iconst X3.here hx rfl (hb hby at_73) k) ?_
          refine go (B := T3.setTop (mkF m 78 #[.val (.long q1), .second, .val (.long q2), .second, .val (.long P), .second, .val (.long B), .second, .val (.int (fEX B P)), .val (.int (fEX (B + (1 : Int64)) P)), .val (.int (fEX q1 P))] [(.int (1 : Int32))])) (fun _ k => XS.goto X3.here hx rfl (pc0 := 74) (pc' := 78) rfl (hb hby at_74) (by decide) (by decide) k) ?_
          refine goRetN X3 hx (t := .boolean) Bd.returns (by simp) hlk (hb hby at_78) ?_ (by decide) (by decide)
          rw [e3]
          exact ⟨rfl, N3⟩
        · refine go (B := T3.setTop (mkF m 77 #[.val (.long q1), .second, .val (.long q2), .second, .val (.long P), .second, .val (.long B), .second, .val (.int (fEX B P)), .val (.int (fEX (B + (1 : Int64)) P)), .val (.int (fEX q1 P))] [])) (fun _ k => XS.icmpYes X3.here hx rfl (pc0 := 70) (pc' := 77) rfl (hb hby at_70) rfl (feq hc70).2 (by decide) (by decide) k) ?_
          refine go (B := T3.setTop (mkF m 78 #[.val (.long q1), .second, .val (.long q2), .second, .val (.long P), .second, .val (.long B), .second, .val (.int (fEX B P)), .val (.int (fEX (B + (1 : Int64)) P)), .val (.int (fEX q1 P))] [(.int (0 : Int32))])) (fun _ k => XS.iconst X3.here hx rfl (hb hby at_77) k) ?_
          refine goRetN X3 hx (t := .boolean) Bd.returns (by simp) hlk (hb hby at_78) ?_ (by decide) (by decide)
          rw [e3]
          exfalso
          have q1_ := fEX_int B P
          have q2_ := fEX_int (B + (1 : Int64)) P
          have q3_ := fEX_int q1 P
          simp only [Int32.lt_iff_toInt_lt, Int64.lt_iff_toInt_lt, ← Int32.toInt_inj, ← Int64.toInt_inj, Int32.reduceToInt, Int64.reduceToInt] at  hc48 hc53 hc62 hc70
          omega
      · refine go (B := T3.setTop (mkF m 69 #[.val (.long q1), .second, .val (.long q2), .second, .val (.long P), .second, .val (.long B), .second, .val (.int (fEX B P)), .val (.int (fEX (B + (1 : Int64)) P)), .val (.int (fEX q1 P))] [(.int (fEX q1 P))])) (fun _ k => XS.ifYes X3.here hx rfl (pc0 := 62) (pc' := 69) rfl (hb hby at_62) rfl (lc_le_yes hc62) (by decide) (by decide) k) ?_
        refine go (B := T3.setTop (mkF m 70 #[.val (.long q1), .second, .val (.long q2), .second, .val (.long P), .second, .val (.long B), .second, .val (.int (fEX B P)), .val (.int (fEX (B + (1 : Int64)) P)), .val (.int (fEX q1 P))] [(.int (0 : Int32)), (.int (fEX q1 P))])) (fun _ k => XS.iconst X3.here hx rfl (hb hby at_69) k) ?_
        by_cases hc70 : (fEX q1 P) = (0 : Int32)
        · refine go (B := T3.setTop (mkF m 73 #[.val (.long q1), .second, .val (.long q2), .second, .val (.long P), .second, .val (.long B), .second, .val (.int (fEX B P)), .val (.int (fEX (B + (1 : Int64)) P)), .val (.int (fEX q1 P))] [])) (fun _ k => XS.icmpNo X3.here hx rfl (hb hby at_70) rfl (teq hc70).2 k) ?_
          refine go (B := T3.setTop (mkF m 74 #[.val (.long q1), .second, .val (.long q2), .second, .val (.long P), .second, .val (.long B), .second, .val (.int (fEX B P)), .val (.int (fEX (B + (1 : Int64)) P)), .val (.int (fEX q1 P))] [(.int (1 : Int32))])) (fun _ k => XS.iconst X3.here hx rfl (hb hby at_73) k) ?_
          refine go (B := T3.setTop (mkF m 78 #[.val (.long q1), .second, .val (.long q2), .second, .val (.long P), .second, .val (.long B), .second, .val (.int (fEX B P)), .val (.int (fEX (B + (1 : Int64)) P)), .val (.int (fEX q1 P))] [(.int (1 : Int32))])) (fun _ k => XS.goto X3.here hx rfl (pc0 := 74) (pc' := 78) rfl (hb hby at_74) (by decide) (by decide) k) ?_
          refine goRetN X3 hx (t := .boolean) Bd.returns (by simp) hlk (hb hby at_78) ?_ (by decide) (by decide)
          rw [e3]
          exact ⟨rfl, N3⟩
        · refine go (B := T3.setTop (mkF m 77 #[.val (.long q1), .second, .val (.long q2), .second, .val (.long P), .second, .val (.long B), .second, .val (.int (fEX B P)), .val (.int (fEX (B + (1 : Int64)) P)), .val (.int (fEX q1 P))] [])) (fun _ k => XS.icmpYes X3.here hx rfl (pc0 := 70) (pc' := 77) rfl (hb hby at_70) rfl (feq hc70).2 (by decide) (by decide) k) ?_
          refine go (B := T3.setTop (mkF m 78 #[.val (.long q1), .second, .val (.long q2), .second, .val (.long P), .second, .val (.long B), .second, .val (.int (fEX B P)), .val (.int (fEX (B + (1 : Int64)) P)), .val (.int (fEX q1 P))] [(.int (0 : Int32))])) (fun _ k => XS.iconst X3.here hx rfl (hb hby at_77) k) ?_
          refine goRetN X3 hx (t := .boolean) Bd.returns (by simp) hlk (hb hby at_78) ?_ (by decide) (by decide)
          rw [e3]
          exfalso
          have q1_ := fEX_int B P
          have q2_ := fEX_int (B + (1 : Int64)) P
          have q3_ := fEX_int q1 P
          simp only [Int32.lt_iff_toInt_lt, Int64.lt_iff_toInt_lt, ← Int32.toInt_inj, ← Int64.toInt_inj, Int32.reduceToInt, Int64.reduceToInt] at  hc48 hc53 hc62 hc70
          omega
  · refine go (B := T3.setTop (mkF m 77 #[.val (.long q1), .second, .val (.long q2), .second, .val (.long P), .second, .val (.long B), .second, .val (.int (fEX B P)), .val (.int (fEX (B + (1 : Int64)) P)), .val (.int (fEX q1 P))] [])) (fun _ k => XS.ifYes X3.here hx rfl (pc0 := 48) (pc' := 77) rfl (hb hby at_48) rfl ((if0 _ _).trans (feq hc48).2) (by decide) (by decide) k) ?_
    refine go (B := T3.setTop (mkF m 78 #[.val (.long q1), .second, .val (.long q2), .second, .val (.long P), .second, .val (.long B), .second, .val (.int (fEX B P)), .val (.int (fEX (B + (1 : Int64)) P)), .val (.int (fEX q1 P))] [(.int (0 : Int32))])) (fun _ k => XS.iconst X3.here hx rfl (hb hby at_77) k) ?_
    refine goRetN X3 hx (t := .boolean) Bd.returns (by simp) hlk (hb hby at_78) ?_ (by decide) (by decide)
    rw [e3]
    exfalso
    have q1_ := fEX_int B P
    have q2_ := fEX_int (B + (1 : Int64)) P
    have q3_ := fEX_int q1 P
    simp only [Int32.lt_iff_toInt_lt, Int64.lt_iff_toInt_lt, ← Int32.toInt_inj, ← Int64.toInt_inj, Int32.reduceToInt, Int64.reduceToInt] at  hc48
    omega
set_option maxRecDepth 65536 in
set_option maxHeartbeats 40000000 in
theorem comes_1 {Post : Tables → Env → Array Value → State → Outcome → State → Prop} (hpost : ∀ tb e args s v u, (limb_1_1.after args s (.returned v) u = true ∧ limb_1_2.after args s (.returned v) u = true ∧ True) → FrameEnd s (.returned v) u (Jvm.fieldLocs frame_1_writes args s ++ Jvm.arrayLocs frame_1_arrays args s ++ Jvm.staticLocs frame_1_statics s) 0 0 → Post tb e args s (.returned v) u) :
    ArmFor flags0 classFile x code maxLocals ret World_1 tables_1 room_1 Calls_1 rest_1 Pre_1 Post := by
  intro l hfl _ _ p e ha hc hk s m args below hf hA hF happ hP
  obtain ⟨hcalls, hrest, hpre⟩ := hP
  obtain ⟨-, -, -, hnamed, -, -, -, hat⟩ := (Spec.applies_iff hf).mp happ
  obtain ⟨hg, hn⟩ := and_e (Cond.before_iff.mp (show (Jvm.Cond.and given_1 narrow_1).before args s = true from hpre))
  obtain ⟨hcnt, gg0⟩ := and_e hg
  obtain ⟨ga0, gg1⟩ := and_e gg0
  obtain ⟨w0, w1, rfl⟩ : ∃ w0 w1 : Value, args = #[w0, w1] := by
    have hs : args.size = 2 := by simpa [Cond.value, given_1] using hcnt
    obtain ⟨L⟩ := args
    match L, hs with
    | [w0, w1], _ => exact ⟨w0, w1, rfl⟩
  have hw := fun d (hd : d ∈ tables_1) => atoms_spec (ws := Jvm.Cond.code x code maxLocals ret :: tables_1) hat d (List.mem_cons_of_mem _ hd)
  have hfit : Fit s := fun {y c} hc i hi => by
    obtain ⟨ha, rfl⟩ := Array.getElem?_eq_some_iff.mp hc
    have q := List.all_eq_true.mp ((Array.all_eq_true_iff_forall_mem.mp hF) _ (Array.getElem_mem ha)) i (List.mem_range.mpr hi)
    simpa [Array.getElem?_eq_getElem hi] using q
  obtain ⟨i0, ei0⟩ := isL_v ga0
  obtain rfl : w0 = (.long i0) := Option.some.inj ei0
  obtain ⟨i1, ei1⟩ := isL_v gg1
  obtain rfl : w1 = (.long i1) := Option.some.inj ei1
  obtain ⟨n, o, h1, h2, h3, _, L, rfl, ⟨rfl, N⟩, hq⟩ := rm0 l s _ hw tables_1 i0 i1 s.heap s.heap.size (Nat.le_refl _) p e ha hc hk s m _ below hf ((Spec.applies_iff_loose hf).mp happ).1 ⟨rfl, State.Warmed39.refl s, rfl⟩ trivial
  refine ⟨n, _, h1, h2, h3, hpost _ _ _ _ _ _ ⟨Cond.after_iff.mpr rfl, Cond.after_iff.mpr (eq_i res_at (Term.int_eval (1)) rfl), trivial⟩ ⟨hq.1, hq.2.1, (hq.2.2.sift fun y hy => Or.inr (N y hy)).mono (by decide) (by decide)⟩⟩
theorem main_1_1 : Claimed_1_1 := comes_1 fun _ _ _ _ _ _ h hF => ⟨h.1, hF⟩
theorem main_1_2 : Claimed_1_2 := comes_1 fun _ _ _ _ _ _ h hF => ⟨h.2.1, hF⟩
end Jvm.Pilot.@@N@@
namespace Jvm.Pilot.@@N@@
open Jvm Jvm.ClassFile Sem Op Lib Jvm.Free Jvm.Stand Jvm.Pilot.@@N@@.Jvm.D
/-! MADE BY PROGRAM (witnessworld.py) out of the Statement's table words and the real class files: 9 classes; the members and pool entries that the words name. The judged class is class 1, her method 1. -/
namespace start1
open Jvm.ClassFile
def u (s : String) : CpInfo := .utf8 (stringToUtf16 s)
/-- a pool by its gaps: so many unusable entries, then the entry; so many at the end -/
def gap : Nat → List CpInfo → List CpInfo
  | 0, r => r
  | n + 1, r => .unusable :: gap n r
def poolList (es : List (Nat × CpInfo)) (last : Nat) : List CpInfo := es.foldr (fun e r => gap e.1 (e.2 :: r)) (gap last [])
def pool (es : List (Nat × CpInfo)) (last : Nat) : Array CpInfo := ⟨poolList es last⟩
def fileOf (pool : Array CpInfo) (this : Nat) (attrs : Array Attribute := #[]) (ms : Array MethodInfo := #[]) (fl : Nat := 33) (sup : Nat := 0) (ifs : Array Nat := #[]) (fds : Array FieldInfo := #[]) : ClassFile where
  minorVersion := 0
  majorVersion := 65
  constantPool := pool
  accessFlags := fl
  thisClass := this
  superClass := sup
  interfaces := ifs
  fields := fds
  methods := ms
  attributes := attrs
def plain (name : String) (sup : Option ClassId) : Class where
  name := name
  kind := .ordinary
  loader := none
  accessFlags := 33
  super := sup
  interfaces := #[]
  cf := none
  fields := #[]
  methods := #[]
  instanceTypes := #[]
  staticTypes := #[]
  resolved := #[]
  callSites := []
  init := .initialized
  statics := none
  mirror := none

def pool0 : Array CpInfo := pool [(5, u "<init>"), (0, u "()V"), (1, .class_ 10), (1, u "java/lang/Object")] 113

def k0m0 : Method := { name := "<init>", desc := "()V", sig := { parameters := [], returnType := none }, accessFlags := 1, code := none }
/-- java/lang/Object -/
def k0 : Class := { plain "java/lang/Object" none with
  accessFlags := 33
  interfaces := #[]
  cf := some (fileOf pool0 8 #[] #[{ accessFlags := 1, nameIndex := 5, descriptorIndex := 6, attributes := #[] }] 33 0 #[] #[])
  fields := #[]
  methods := #[k0m0]
  instanceTypes := #[]
  staticTypes := #[]
  resolved := Array.replicate 124 none
  statics := none }

def pool1 : Array CpInfo := pool [(2, .class_ 4), (1, u "java/lang/Object"), (0, u "<init>"), (0, u "()V"), (0, .long 72057594037927935), (1, .long 67108864), (1, .methodref 12 13), (0, .class_ 14), (0, .nameAndType 15 16), (0, u "com/example/libxfrag/libxfrag/parsing/Amplification"), (0, u "exceeds"), (0, u "(JJ)Z"), (0, .class_ 18), (0, u "com/example/libxfrag/libxfrag/parsing/AmplificationExceedsPinLaw"), (2, u "law")] 3

def k1m0 : Method := { name := "<init>", desc := "()V", sig := { parameters := [], returnType := none }, accessFlags := 1, code := none }
def k1c1 : Code := { maxStack := 5, maxLocals := 11, code := code, exceptionTable := #[], attributes := #[] }
def k1m1 : Method := { name := "law", desc := "(JJ)Z", sig := { parameters := [.long, .long], returnType := some .boolean }, accessFlags := 9, code := some k1c1 }
/-- com/example/libxfrag/libxfrag/parsing/AmplificationExceedsPinLaw -/
def k1 : Class := { plain "com/example/libxfrag/libxfrag/parsing/AmplificationExceedsPinLaw" (some 0) with
  accessFlags := 49
  interfaces := #[]
  cf := some (fileOf pool1 17 #[] #[{ accessFlags := 1, nameIndex := 5, descriptorIndex := 6, attributes := #[] }, { accessFlags := 9, nameIndex := 21, descriptorIndex := 16, attributes := #[] }] 49 2 #[] #[])
  fields := #[]
  methods := #[k1m0, k1m1]
  instanceTypes := #[]
  staticTypes := #[]
  resolved := Array.replicate 25 none
  statics := none }

def pool2 : Array CpInfo := pool [(2, .class_ 4), (1, u "java/lang/Object"), (0, u "<init>"), (0, u "()V"), (0, .class_ 8), (0, u "com/example/libxfrag/libxfrag/parsing/Amplification"), (0, .long 64), (1, .long 67108864), (5, u "FACTOR"), (0, u "I"), (2, u "ALLOWANCE"), (0, u "J"), (2, u "exceeds"), (0, u "(JJ)Z")] 19

def k2m0 : Method := { name := "<init>", desc := "()V", sig := { parameters := [], returnType := none }, accessFlags := 2, code := none }
def k2c1 : Code := { maxStack := 6, maxLocals := 4, code := prog_107_method_2_code, exceptionTable := #[], attributes := #[] }
def k2m1 : Method := { name := "exceeds", desc := "(JJ)Z", sig := { parameters := [.long, .long], returnType := some .boolean }, accessFlags := 9, code := some k2c1 }
/-- com/example/libxfrag/libxfrag/parsing/Amplification -/
def k2 : Class := { plain "com/example/libxfrag/libxfrag/parsing/Amplification" (some 0) with
  accessFlags := 33
  interfaces := #[]
  cf := some (fileOf pool2 7 #[] #[{ accessFlags := 2, nameIndex := 5, descriptorIndex := 6, attributes := #[] }, { accessFlags := 9, nameIndex := 25, descriptorIndex := 26, attributes := #[] }] 33 2 #[] #[{ accessFlags := 25, nameIndex := 17, descriptorIndex := 18, attributes := #[] }, { accessFlags := 25, nameIndex := 21, descriptorIndex := 22, attributes := #[] }])
  fields := #[{ name := "FACTOR", type := .int, accessFlags := 25, slot := 0, constantValue := 0 }, { name := "ALLOWANCE", type := .long, accessFlags := 25, slot := 1, constantValue := 0 }]
  methods := #[k2m0, k2m1]
  instanceTypes := #[]
  staticTypes := #[.int, .long]
  resolved := Array.replicate 46 none
  statics := none }

def pool3 : Array CpInfo := pool [(1, u "java/lang/Cloneable"), (0, .class_ 1), (0, u "java/lang/Object"), (0, .class_ 3)] 3

/-- java/lang/Cloneable -/
def k3 : Class := { plain "java/lang/Cloneable" (some 0) with
  accessFlags := 1537
  interfaces := #[]
  cf := some (fileOf pool3 2 #[] #[] 1537 4 #[] #[])
  fields := #[]
  methods := #[]
  instanceTypes := #[]
  staticTypes := #[]
  resolved := Array.replicate 8 none
  statics := none }

def pool4 : Array CpInfo := pool [(1, u "java/io/Serializable"), (0, .class_ 1), (0, u "java/lang/Object"), (0, .class_ 3)] 3

/-- java/io/Serializable -/
def k4 : Class := { plain "java/io/Serializable" (some 0) with
  accessFlags := 1537
  interfaces := #[]
  cf := some (fileOf pool4 2 #[] #[] 1537 4 #[] #[])
  fields := #[]
  methods := #[]
  instanceTypes := #[]
  staticTypes := #[]
  resolved := Array.replicate 8 none
  statics := none }

/-- the primitive byte -/
def k5 : Class := { plain "byte" none with kind := .primitive 'B', accessFlags := 0x411 }
/-- [B -/
def k6 : Class := { plain "[B" (some 0) with kind := .array 5 .byte, interfaces := #[3, 4], accessFlags := 1041 }

/-- the primitive int -/
def k7 : Class := { plain "int" none with kind := .primitive 'I', accessFlags := 0x411 }
/-- [I -/
def k8 : Class := { plain "[I" (some 0) with kind := .array 7 .int, interfaces := #[3, 4], accessFlags := 1041 }

def heap : Heap := #[]
def classes : Array Class := #[k0, k1, k2, k3, k4, k5, k6, k7, k8]
def interned : List (Array UInt16 × Addr) := []
def slotsUsed : Nat := 0
def theMethod : MethodId := ⟨1, 1⟩
def args0 : Array Value := #[.long 5, .long 7]
def aboutOver (below : List Frame) : State where
  vm := { classes := classes, interned := interned.toArray }
  heap := heap
  slotsUsed := slotsUsed
  threads := #[{ frames := .invoking theMethod args0 :: below }]
def below0 : List Frame := [.native { method := ⟨0, 0⟩, args := #[] }]
def about1 : State := aboutOver below0
def p0 : Program := .bare "" "" ""
def e0 : Env := launch0.env 0 0 0
theorem w_frames : about1.frames = Frame.invoking theMethod args0 :: below0 := rfl
set_option maxRecDepth 65536 in
theorem w_args : argsFit about1.vm theMethod args0 = true := by decide +kernel
set_option maxRecDepth 65536 in
theorem w_heap : heapFits about1 = true := by decide +kernel
set_option maxRecDepth 65536 in
theorem w_runnable : about1.curStatus? = some .runnable := by decide +kernel
set_option maxRecDepth 65536 in
theorem w_alone : about1.alone = true := by decide +kernel
set_option maxRecDepth 65536 in
theorem w_named : about1.methodNamed? x = some theMethod := by decide +kernel
set_option maxRecDepth 65536 in
theorem w_hears : about1.hears theMethod below0 = true := by decide +kernel
set_option maxRecDepth 65536 in
theorem w_ripe : about1.ripe theMethod args0 below0 = true := by decide +kernel
theorem w_running : about1.status = .running := rfl
set_option maxRecDepth 65536 in
theorem w_room : about1.hasRoom e0.platform room_1 = true :=
  launch0.hasRoom_least _ room_1 (by decide +kernel) (by decide +kernel) (by decide +kernel) (by decide +kernel) (by decide +kernel) (by decide +kernel)
theorem allAtoms_all (ts : List Jvm.Cond) (a : Array Jvm.Value) (st : Jvm.State) : (allAtoms ts).before a st = ts.all (fun c => c.before a st) := by
  induction ts with
  | nil => rfl
  | cons c t ih =>
    show (Jvm.Cond.and c (allAtoms t)).before a st = _
    rw [Jvm.Cond.before_and, ih, List.all_cons]
def words1 : List Jvm.Cond := Jvm.Cond.code x code maxLocals ret :: tables_1
/-- a 'code' word, met by the world's own term for the bytes: nothing is compared byte by byte -/
theorem code_word {y : MethodName} {bytes : ByteArray} {mx : Nat} {rt : Option FieldType} {a : Array Value} {s : State} {m : MethodId} {meth : Method} {c : Code} (h1 : s.methodNamed? y = some m) (h2 : s.vm.method? m = some meth) (h3 : meth.code = some c) (h4 : c.code = bytes)
    (h5 : (c.maxLocals == mx && c.exceptionTable.isEmpty && decide (c.maxStack ≤ mostOperands) && decide (meth.sig.returnType = rt) && !meth.locks && decide (parseMethodDescriptor y.desc = some meth.sig)) = true) : (Jvm.Cond.code y bytes mx rt).before a s = true := by
  simp only [Bool.and_eq_true, beq_iff_eq, Bool.not_eq_true', decide_eq_true_eq] at h5
  obtain ⟨⟨⟨⟨⟨g1, g2⟩, g3⟩, g4⟩, g5⟩, g6⟩ := h5
  simp [Cond.before, Cond.holds, Cond.value, h1, h2, h3, h4, g1, g2, g3, g4, g5, g6]
def isCode : Jvm.Cond → Bool
  | .code _ _ _ _ => true
  | _ => false
theorem all_split {L : List Jvm.Cond} {P : Jvm.Cond → Bool} (h1 : L.all (fun c => isCode c || P c) = true) (h2 : ∀ c ∈ L.filter isCode, P c = true) : L.all P = true := by
  refine List.all_eq_true.mpr fun c hc => ?_
  have h := List.all_eq_true.mp h1 c hc
  rcases Bool.eq_false_or_eq_true (isCode c) with hi | hi
  · exact h2 c (List.mem_filter.mpr ⟨hc, hi⟩)
  · simpa [hi] using h
set_option maxRecDepth 65536 in
theorem w_c0 : (Jvm.Cond.code x code maxLocals ret).before args0 about1 = true := code_word (m := ⟨1, 1⟩) (meth := k1m1) (c := k1c1) (by decide +kernel) rfl rfl rfl (by decide +kernel)
set_option maxRecDepth 65536 in
theorem w_c1 : (Jvm.Cond.code ({ cls := "com/example/libxfrag/libxfrag/parsing/Amplification", name := "exceeds", desc := "(JJ)Z" } : Jvm.MethodName) prog_107_method_2_code (4 : Nat) (Option.some Jvm.ClassFile.FieldType.boolean)).before args0 about1 = true := code_word (m := ⟨2, 1⟩) (meth := k2m1) (c := k2c1) (by decide +kernel) rfl rfl rfl (by decide +kernel)
def codes1 : List Jvm.Cond := [Jvm.Cond.code x code maxLocals ret, Jvm.Cond.code ({ cls := "com/example/libxfrag/libxfrag/parsing/Amplification", name := "exceeds", desc := "(JJ)Z" } : Jvm.MethodName) prog_107_method_2_code (4 : Nat) (Option.some Jvm.ClassFile.FieldType.boolean)]
set_option maxRecDepth 65536 in
theorem codes_eq : words1.filter isCode = codes1 := rfl
theorem w_codes : ∀ c ∈ words1.filter isCode, c.before args0 about1 = true := by
  rw [codes_eq]
  intro c hc
  simp only [codes1, List.mem_cons, List.not_mem_nil, or_false] at hc
  rcases hc with rfl | rfl
  · exact w_c0
  · exact w_c1
set_option maxRecDepth 65536 in
theorem w_t1 : words1.all (fun c => isCode c || c.before args0 about1) = true := by decide +kernel
theorem w_tables : (allAtoms (Jvm.Cond.code x code maxLocals ret :: tables_1)).before args0 about1 = true := by
  rw [allAtoms_all]
  show words1.all (fun c => c.before args0 about1) = true
  refine all_split ?_ w_codes
  rw [w_t1]
set_option maxRecDepth 65536 in
theorem w_case : (Jvm.Cond.and given_1 narrow_1).before args0 about1 = true := by decide +kernel
theorem w_applies : (headSpec (Jvm.Cond.code x code maxLocals ret :: tables_1) room_1).applies x e0.platform about1 = true :=
  (Spec.applies_iff w_frames).mpr ⟨w_running, w_runnable, w_alone, w_named, w_hears, w_ripe, w_room, w_tables⟩
theorem atStart : AtStart classFile x code maxLocals ret World_1 tables_1 room_1 Calls_1 rest_1 Pre_1 launch0 p0 e0 about1 theMethod args0 below0 :=
  ⟨lists_1, trivial, launch0.admits_env _ _ _, launch0.least_env, fairChoices_fair.cas, fairChoices_fair.clock, w_frames, w_args, w_heap, w_applies, trivial, trivial, w_case⟩
end start1
theorem witness_1 : WitnessClaimed_1 := ⟨start1.p0, start1.e0, start1.about1, start1.theMethod, start1.args0, start1.below0, start1.atStart⟩
end Jvm.Pilot.@@N@@
