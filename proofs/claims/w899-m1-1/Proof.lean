import JvmDerived
import JvmDerived.Pilot.@@N@@Statement
import JvmDerived.Pilot.@@N@@Code
set_option linter.unusedVariables false
set_option linter.unusedSimpArgs false
namespace Jvm.Pilot.@@N@@
open Jvm Jvm.ClassFile Sem Op Lib Jvm.Free Jvm.Stand Jvm.LawKit Jvm.RoadKit Bundle Jvm.Pilot.@@N@@.Jvm.D
/-- from the state A the run comes to a return of which Q holds -/
def Go (tb : Tables) (e : Env) (below : List Frame) (s : State) (C S : Nat) (Q : Option Value → Heap → List Loc → Prop) (A : State) : Prop :=
  ∃ s₂ o, Steps tb e below A s₂ ∧ s₂.status = .running ∧ Ended s₂ below o ∧ ∃ v L, o = .returned v ∧ Q v s₂.heap L ∧ FrameEnd s o s₂ L C S
theorem go {tb : Tables} {e : Env} {below : List Frame} {s A B : State} {C S : Nat} {Q : Option Value → Heap → List Loc → Prop} (st : ∀ t, Steps tb e below B t → Steps tb e below A t) (h : Go tb e below s C S Q B) : Go tb e below s C S Q A := by
  obtain ⟨s₂, o, h1, h2⟩ := h
  exact ⟨s₂, o, st _ h1, h2⟩
section Rets
variable {p : Program} {l : Launch} {e : Env} {R : Room} {s : State} {m : MethodId} {args : Array Value} {below : List Frame} {meth : Method} {c : Code} {T : State} {locs : List Loc} {cells slots : Nat} {C S : Nat} {Q : Option Value → Heap → List Loc → Prop} {pc : Nat} {Ls : Array Slot} {rest : List Value}
theorem goRetI (X : Stand p l e R s m args below meth c T locs cells slots) (hx : p.tables.exec = Jvm.exec) {z : Int32} (hret : meth.sig.returnType = some .int) (hlk : meth.locks = false) (hd : decode c.code pc = .ok (.ireturn, 1)) (hQ : Q (some (.int z)) T.heap locs) (hc : cells ≤ C) (hs : slots ≤ S) : Go p.tables e below s C S Q (T.setTop (mkF m pc Ls (.int z :: rest))) := by
  obtain ⟨fs, hr, hrun, hended, hW, hsame⟩ := X.leave (v := some (.int z)) (fun h => by rw [hret] at h; cases h) hlk
  exact ⟨_, _, retOut X hx hret rfl (Or.inl ⟨rfl, Or.inl rfl, z, rfl⟩) hd hr, hrun, hended, _, _, rfl, hQ, ⟨_, rfl⟩, hW, hsame.mono hc hs⟩
theorem goRetN (X : Stand p l e R s m args below meth c T locs cells slots) (hx : p.tables.exec = Jvm.exec) {z : Int32} {t : FieldType} (hret : meth.sig.returnType = some t) (ht : t = .boolean ∨ t = .byte ∨ t = .char ∨ t = .short) (hlk : meth.locks = false) (hd : decode c.code pc = .ok (.ireturn, 1)) (hQ : Q (some (.int (nar t z))) T.heap locs) (hc : cells ≤ C) (hs : slots ≤ S) : Go p.tables e below s C S Q (T.setTop (mkF m pc Ls (.int z :: rest))) := by
  obtain ⟨fs, hr, hrun, hended, hW, hsame⟩ := X.leave (v := some (.int (nar t z))) (fun h => by rw [hret] at h; cases h) hlk
  exact ⟨_, _, retN X hx hret ht hd hr, hrun, hended, _, _, rfl, hQ, ⟨_, rfl⟩, hW, hsame.mono hc hs⟩
theorem goRetL (X : Stand p l e R s m args below meth c T locs cells slots) (hx : p.tables.exec = Jvm.exec) {z : Int64} (hret : meth.sig.returnType = some .long) (hlk : meth.locks = false) (hd : decode c.code pc = .ok (.lreturn, 1)) (hQ : Q (some (.long z)) T.heap locs) (hc : cells ≤ C) (hs : slots ≤ S) : Go p.tables e below s C S Q (T.setTop (mkF m pc Ls (.long z :: rest))) := by
  obtain ⟨fs, hr, hrun, hended, hW, hsame⟩ := X.leave (v := some (.long z)) (fun h => by rw [hret] at h; cases h) hlk
  exact ⟨_, _, retOut X hx hret rfl (Or.inr (Or.inl ⟨rfl, rfl, z, rfl⟩)) hd hr, hrun, hended, _, _, rfl, hQ, ⟨_, rfl⟩, hW, hsame.mono hc hs⟩
theorem goRetR (X : Stand p l e R s m args below meth c T locs cells slots) (hx : p.tables.exec = Jvm.exec) {a : Addr} {t : FieldType} (hret : meth.sig.returnType = some t) (ht : t.isReference = true) (hlk : meth.locks = false) (hd : decode c.code pc = .ok (.areturn, 1)) (hQ : Q (some (.ref a)) T.heap locs) (hc : cells ≤ C) (hs : slots ≤ S) : Go p.tables e below s C S Q (T.setTop (mkF m pc Ls (.ref a :: rest))) := by
  obtain ⟨fs, hr, hrun, hended, hW, hsame⟩ := X.leave (v := some (.ref a)) (fun h => by rw [hret] at h; cases h) hlk
  exact ⟨_, _, retOut X hx hret (by cases t <;> first | rfl | cases ht) (Or.inr (Or.inr (Or.inr (Or.inr ⟨rfl, ht, rfl⟩)))) hd hr, hrun, hended, _, _, rfl, hQ, ⟨_, rfl⟩, hW, hsame.mono hc hs⟩
theorem goRetV (X : Stand p l e R s m args below meth c T locs cells slots) (hx : p.tables.exec = Jvm.exec) (hret : meth.sig.returnType = none) (hlk : meth.locks = false) (hd : decode c.code pc = .ok (.return_, 1)) (hQ : Q none T.heap locs) (hc : cells ≤ C) (hs : slots ≤ S) : Go p.tables e below s C S Q (T.setTop (mkF m pc Ls [])) := by
  obtain ⟨fs, hr, hrun, hended, hW, hsame⟩ := X.leave (v := none) (fun _ => rfl) hlk
  exact ⟨_, _, X.returnOut hx hret hd hr, hrun, hended, _, _, rfl, hQ, ⟨_, rfl⟩, hW, hsame.mono hc hs⟩
end Rets
theorem lc_lt_yes {x y : Int64} (h : x < y) : ifCond.holds .lt (lcmpW x y) = true := by
  have h1 : ¬ y < x := by rw [Int64.lt_iff_toInt_lt] at h ⊢; omega
  have h2 : ¬ x = y := fun q => by subst q; rw [Int64.lt_iff_toInt_lt] at h; omega
  simp [lcmpW, h1, h2]; decide
theorem lc_lt_no {x y : Int64} (h : ¬ x < y) : ifCond.holds .lt (lcmpW x y) = false := by
  by_cases h1 : y < x
  · simp [lcmpW, h1]; decide
  · have h2 : x = y := by rw [← Int64.toInt_inj]; rw [Int64.lt_iff_toInt_lt] at h h1; omega
    simp [lcmpW, h1, h2]; decide
theorem lc_ge_no {x y : Int64} (h : x < y) : ifCond.holds .ge (lcmpW x y) = false := by
  have h1 : ¬ y < x := by rw [Int64.lt_iff_toInt_lt] at h ⊢; omega
  have h2 : ¬ x = y := fun q => by subst q; rw [Int64.lt_iff_toInt_lt] at h; omega
  simp [lcmpW, h1, h2]; decide
theorem lc_ge_yes {x y : Int64} (h : ¬ x < y) : ifCond.holds .ge (lcmpW x y) = true := by
  by_cases h1 : y < x
  · simp [lcmpW, h1]; decide
  · have h2 : x = y := by rw [← Int64.toInt_inj]; rw [Int64.lt_iff_toInt_lt] at h h1; omega
    simp [lcmpW, h1, h2]; decide
theorem lc_gt_yes {x y : Int64} (h : y < x) : ifCond.holds .gt (lcmpW x y) = true := by
  simp [lcmpW, h]; decide
theorem lc_gt_no {x y : Int64} (h : ¬ y < x) : ifCond.holds .gt (lcmpW x y) = false := by
  by_cases h2 : x = y <;> simp [lcmpW, h, h2] <;> decide
theorem lc_le_no {x y : Int64} (h : y < x) : ifCond.holds .le (lcmpW x y) = false := by
  simp [lcmpW, h]; decide
theorem lc_le_yes {x y : Int64} (h : ¬ y < x) : ifCond.holds .le (lcmpW x y) = true := by
  by_cases h2 : x = y <;> simp [lcmpW, h, h2] <;> decide
theorem lc_eq_yes {x y : Int64} (h : x = y) : ifCond.holds .eq (lcmpW x y) = true := by
  subst h; simp [lcmpW]; decide
theorem lc_eq_no {x y : Int64} (h : ¬ x = y) : ifCond.holds .eq (lcmpW x y) = false := by
  by_cases h1 : y < x <;> simp [lcmpW, h, h1] <;> decide
theorem lc_ne_no {x y : Int64} (h : x = y) : ifCond.holds .ne (lcmpW x y) = false := by
  subst h; simp [lcmpW]; decide
theorem lc_ne_yes {x y : Int64} (h : ¬ x = y) : ifCond.holds .ne (lcmpW x y) = true := by
  by_cases h1 : y < x <;> simp [lcmpW, h, h1] <;> decide
def fWS (p : Int32) : Int32 := if p.toInt = 32 ∨ p.toInt = 9 ∨ p.toInt = 10 ∨ p.toInt = 13 then 1 else 0
theorem fWS_one {p : Int32} (h : p.toInt = 32 ∨ p.toInt = 9 ∨ p.toInt = 10 ∨ p.toInt = 13) : fWS p = 1 := if_pos h
theorem fWS_zero {p : Int32} (h : ¬ (p.toInt = 32 ∨ p.toInt = 9 ∨ p.toInt = 10 ∨ p.toInt = 13)) : fWS p = 0 := if_neg h
theorem fWS_int (p : Int32) : ((fWS p).toInt = 1 ∧ (p.toInt = 32 ∨ p.toInt = 9 ∨ p.toInt = 10 ∨ p.toInt = 13)) ∨ ((fWS p).toInt = 0 ∧ ¬ (p.toInt = 32 ∨ p.toInt = 9 ∨ p.toInt = 10 ∨ p.toInt = 13)) := by
  by_cases h : p.toInt = 32 ∨ p.toInt = 9 ∨ p.toInt = 10 ∨ p.toInt = 13
  · exact Or.inl ⟨by rw [fWS_one h]; rfl, h⟩
  · exact Or.inr ⟨by rw [fWS_zero h]; rfl, h⟩
theorem pn_com_example_libxfrag_libxfrag_canonical_Names : plainName "com/example/libxfrag/libxfrag/canonical/Names" = true := by first | (simp [plainName, overriddenIn]; done) | decide +kernel
theorem ef_rm1 (m : MethodId) (p1 : Int32) : entryFrame m #[(.int p1)] 1 = mkF m 0 #[.val (.int p1)] [] := by first | (simp [entryFrame, mkF, argsToLocals, Value.category]; done) | rfl
def Q1 (Z : State) (p1 : Int32) (h0 : Heap) (n0 : Nat) (v : Option Value) (h : Heap) (L : List Loc) : Prop := v = some (.int (fWS p1)) ∧ Fr n0 L ∧ h = h0
theorem d1_0 : decode prog_9_method_2_code 0 = .ok (.iload_n 0, 1) := by decide +kernel
theorem d1_1 : decode prog_9_method_2_code 1 = .ok (.bipush 32, 2) := by decide +kernel
theorem d1_3 : decode prog_9_method_2_code 3 = .ok (.if_icmp .eq 21, 3) := by decide +kernel
theorem d1_24 : decode prog_9_method_2_code 24 = .ok (.iconst 1, 1) := by decide +kernel
theorem d1_25 : decode prog_9_method_2_code 25 = .ok (.goto 4, 3) := by decide +kernel
theorem d1_29 : decode prog_9_method_2_code 29 = .ok (.ireturn, 1) := by decide +kernel
theorem d1_6 : decode prog_9_method_2_code 6 = .ok (.iload_n 0, 1) := by decide +kernel
theorem d1_7 : decode prog_9_method_2_code 7 = .ok (.bipush 9, 2) := by decide +kernel
theorem d1_9 : decode prog_9_method_2_code 9 = .ok (.if_icmp .eq 15, 3) := by decide +kernel
theorem d1_12 : decode prog_9_method_2_code 12 = .ok (.iload_n 0, 1) := by decide +kernel
theorem d1_13 : decode prog_9_method_2_code 13 = .ok (.bipush 10, 2) := by decide +kernel
theorem d1_15 : decode prog_9_method_2_code 15 = .ok (.if_icmp .eq 9, 3) := by decide +kernel
theorem d1_18 : decode prog_9_method_2_code 18 = .ok (.iload_n 0, 1) := by decide +kernel
theorem d1_19 : decode prog_9_method_2_code 19 = .ok (.bipush 13, 2) := by decide +kernel
theorem d1_21 : decode prog_9_method_2_code 21 = .ok (.if_icmp .ne 7, 3) := by decide +kernel
theorem d1_28 : decode prog_9_method_2_code 28 = .ok (.iconst 0, 1) := by decide +kernel
set_option maxRecDepth 65536 in
set_option maxHeartbeats 40000000 in
theorem rm1 (l : Launch) (Z : State) (a0 : Array Value) (hw : ∀ d ∈ tables_1, d.before a0 Z = true) (ws : List Jvm.Cond) (p1 : Int32) (h0 : Heap) (n0 : Nat) (Z0 : n0 ≤ h0.size) :
    MetFree l (⟨"com/example/libxfrag/libxfrag/canonical/Names", "isWhiteSpace", "(I)Z"⟩ : MethodName) (head1 (Jvm.Cond.code (⟨"com/example/libxfrag/libxfrag/canonical/Names", "isWhiteSpace", "(I)Z"⟩ : MethodName) prog_9_method_2_code 1 (some .boolean) :: ws) ({ frames := 0, cells := 0, slots := 0, locals := 0 } : Room)) (fun a U => a = #[(.int p1)] ∧ Z.Warmed39 U.vm ∧ U.heap = h0) (fun _ _ _ _ _ => True) (fun _ U o U' => ∃ v L, o = .returned v ∧ Q1 Z p1 h0 n0 v U'.heap L ∧ FrameEnd U o U' L ({ frames := 0, cells := 0, slots := 0, locals := 0 } : Room).cells ({ frames := 0, cells := 0, slots := 0, locals := 0 } : Room).slots) := by
  refine MetFree.of_bodySF (plainFor_of_name pn_com_example_libxfrag_libxfrag_canonical_Names) hisR ?_
  intro p e s m args below meth c s₁ Bd hml0 hP hK
  obtain ⟨rfl, hZ, hh⟩ := hP
  have hx := Bd.exec
  have hby := Bd.bytes
  have hml : c.maxLocals = 1 := hml0
  have hown : s.vm.findClass "com/example/libxfrag/libxfrag/canonical/Names" = some m.cls := findClass_of_methodNamed Bd.named
  have hnm := (name_of_methodNamed Bd.named Bd.method).1
  have hlk := Bd.notSynchronized
  have X0 : Stand p l e ({ frames := 0, cells := 0, slots := 0, locals := 0 } : Room) s m #[(.int p1)] below meth c s₁ [] 0 0 := Stand.of_body Bd
  have e0 : s₁.heap = h0 := by rw [← hh, Bd.state]; rfl
  have N0 := Fr.nil n0
  show Go p.tables e below s ({ frames := 0, cells := 0, slots := 0, locals := 0 } : Room).cells ({ frames := 0, cells := 0, slots := 0, locals := 0 } : Room).slots (Q1 Z p1 h0 n0) _
  refine go (fun t k => castTop (ef_rm1 m p1) k) ?_
  refine go (B := s₁.setTop (mkF m 1 #[.val (.int p1)] [(.int p1)])) (fun _ k => XS.iloadN X0.here hx rfl (hb hby d1_0) rfl k) ?_
  refine go (B := s₁.setTop (mkF m 3 #[.val (.int p1)] [(.int (32 : Int32)), (.int p1)])) (fun _ k => XS.bipush X0.here hx rfl (hb hby d1_1) k) ?_
  by_cases hc3 : p1 = (32 : Int32)
  · refine go (B := s₁.setTop (mkF m 24 #[.val (.int p1)] [])) (fun _ k => XS.icmpYes X0.here hx rfl (pc0 := 3) (pc' := 24) rfl (hb hby d1_3) rfl (teq hc3).1 (by decide) (by decide) k) ?_
    refine go (B := s₁.setTop (mkF m 25 #[.val (.int p1)] [(.int (1 : Int32))])) (fun _ k => XS.iconst X0.here hx rfl (hb hby d1_24) k) ?_
    refine go (B := s₁.setTop (mkF m 29 #[.val (.int p1)] [(.int (1 : Int32))])) (fun _ k => XS.goto X0.here hx rfl (pc0 := 25) (pc' := 29) rfl (hb hby d1_25) (by decide) (by decide) k) ?_
    refine goRetN X0 hx (t := .boolean) Bd.returns (by simp) hlk (hb hby d1_29) ?_ (by decide) (by decide)
    rw [e0]
    have q : fWS p1 = (1 : Int32) := fWS_one (by simp only [Int32.lt_iff_toInt_lt, Int64.lt_iff_toInt_lt, ← Int32.toInt_inj, ← Int64.toInt_inj, Int32.reduceToInt, Int64.reduceToInt] at hc3; omega)
    exact ⟨by rw [q]; rfl, N0, rfl⟩
  · refine go (B := s₁.setTop (mkF m 6 #[.val (.int p1)] [])) (fun _ k => XS.icmpNo X0.here hx rfl (hb hby d1_3) rfl (feq hc3).1 k) ?_
    refine go (B := s₁.setTop (mkF m 7 #[.val (.int p1)] [(.int p1)])) (fun _ k => XS.iloadN X0.here hx rfl (hb hby d1_6) rfl k) ?_
    refine go (B := s₁.setTop (mkF m 9 #[.val (.int p1)] [(.int (9 : Int32)), (.int p1)])) (fun _ k => XS.bipush X0.here hx rfl (hb hby d1_7) k) ?_
    by_cases hc9 : p1 = (9 : Int32)
    · refine go (B := s₁.setTop (mkF m 24 #[.val (.int p1)] [])) (fun _ k => XS.icmpYes X0.here hx rfl (pc0 := 9) (pc' := 24) rfl (hb hby d1_9) rfl (teq hc9).1 (by decide) (by decide) k) ?_
      refine go (B := s₁.setTop (mkF m 25 #[.val (.int p1)] [(.int (1 : Int32))])) (fun _ k => XS.iconst X0.here hx rfl (hb hby d1_24) k) ?_
      refine go (B := s₁.setTop (mkF m 29 #[.val (.int p1)] [(.int (1 : Int32))])) (fun _ k => XS.goto X0.here hx rfl (pc0 := 25) (pc' := 29) rfl (hb hby d1_25) (by decide) (by decide) k) ?_
      refine goRetN X0 hx (t := .boolean) Bd.returns (by simp) hlk (hb hby d1_29) ?_ (by decide) (by decide)
      rw [e0]
      have q : fWS p1 = (1 : Int32) := fWS_one (by simp only [Int32.lt_iff_toInt_lt, Int64.lt_iff_toInt_lt, ← Int32.toInt_inj, ← Int64.toInt_inj, Int32.reduceToInt, Int64.reduceToInt] at hc3 hc9; omega)
      exact ⟨by rw [q]; rfl, N0, rfl⟩
    · refine go (B := s₁.setTop (mkF m 12 #[.val (.int p1)] [])) (fun _ k => XS.icmpNo X0.here hx rfl (hb hby d1_9) rfl (feq hc9).1 k) ?_
      refine go (B := s₁.setTop (mkF m 13 #[.val (.int p1)] [(.int p1)])) (fun _ k => XS.iloadN X0.here hx rfl (hb hby d1_12) rfl k) ?_
      refine go (B := s₁.setTop (mkF m 15 #[.val (.int p1)] [(.int (10 : Int32)), (.int p1)])) (fun _ k => XS.bipush X0.here hx rfl (hb hby d1_13) k) ?_
      by_cases hc15 : p1 = (10 : Int32)
      · refine go (B := s₁.setTop (mkF m 24 #[.val (.int p1)] [])) (fun _ k => XS.icmpYes X0.here hx rfl (pc0 := 15) (pc' := 24) rfl (hb hby d1_15) rfl (teq hc15).1 (by decide) (by decide) k) ?_
        refine go (B := s₁.setTop (mkF m 25 #[.val (.int p1)] [(.int (1 : Int32))])) (fun _ k => XS.iconst X0.here hx rfl (hb hby d1_24) k) ?_
        refine go (B := s₁.setTop (mkF m 29 #[.val (.int p1)] [(.int (1 : Int32))])) (fun _ k => XS.goto X0.here hx rfl (pc0 := 25) (pc' := 29) rfl (hb hby d1_25) (by decide) (by decide) k) ?_
        refine goRetN X0 hx (t := .boolean) Bd.returns (by simp) hlk (hb hby d1_29) ?_ (by decide) (by decide)
        rw [e0]
        have q : fWS p1 = (1 : Int32) := fWS_one (by simp only [Int32.lt_iff_toInt_lt, Int64.lt_iff_toInt_lt, ← Int32.toInt_inj, ← Int64.toInt_inj, Int32.reduceToInt, Int64.reduceToInt] at hc3 hc9 hc15; omega)
        exact ⟨by rw [q]; rfl, N0, rfl⟩
      · refine go (B := s₁.setTop (mkF m 18 #[.val (.int p1)] [])) (fun _ k => XS.icmpNo X0.here hx rfl (hb hby d1_15) rfl (feq hc15).1 k) ?_
        refine go (B := s₁.setTop (mkF m 19 #[.val (.int p1)] [(.int p1)])) (fun _ k => XS.iloadN X0.here hx rfl (hb hby d1_18) rfl k) ?_
        refine go (B := s₁.setTop (mkF m 21 #[.val (.int p1)] [(.int (13 : Int32)), (.int p1)])) (fun _ k => XS.bipush X0.here hx rfl (hb hby d1_19) k) ?_
        by_cases hc21 : p1 = (13 : Int32)
        · refine go (B := s₁.setTop (mkF m 24 #[.val (.int p1)] [])) (fun _ k => XS.icmpNo X0.here hx rfl (hb hby d1_21) rfl (teq hc21).2 k) ?_
          refine go (B := s₁.setTop (mkF m 25 #[.val (.int p1)] [(.int (1 : Int32))])) (fun _ k => XS.iconst X0.here hx rfl (hb hby d1_24) k) ?_
          refine go (B := s₁.setTop (mkF m 29 #[.val (.int p1)] [(.int (1 : Int32))])) (fun _ k => XS.goto X0.here hx rfl (pc0 := 25) (pc' := 29) rfl (hb hby d1_25) (by decide) (by decide) k) ?_
          refine goRetN X0 hx (t := .boolean) Bd.returns (by simp) hlk (hb hby d1_29) ?_ (by decide) (by decide)
          rw [e0]
          have q : fWS p1 = (1 : Int32) := fWS_one (by simp only [Int32.lt_iff_toInt_lt, Int64.lt_iff_toInt_lt, ← Int32.toInt_inj, ← Int64.toInt_inj, Int32.reduceToInt, Int64.reduceToInt] at hc3 hc9 hc15 hc21; omega)
          exact ⟨by rw [q]; rfl, N0, rfl⟩
        · refine go (B := s₁.setTop (mkF m 28 #[.val (.int p1)] [])) (fun _ k => XS.icmpYes X0.here hx rfl (pc0 := 21) (pc' := 28) rfl (hb hby d1_21) rfl (feq hc21).2 (by decide) (by decide) k) ?_
          refine go (B := s₁.setTop (mkF m 29 #[.val (.int p1)] [(.int (0 : Int32))])) (fun _ k => XS.iconst X0.here hx rfl (hb hby d1_28) k) ?_
          refine goRetN X0 hx (t := .boolean) Bd.returns (by simp) hlk (hb hby d1_29) ?_ (by decide) (by decide)
          rw [e0]
          have q : fWS p1 = (0 : Int32) := fWS_zero (by simp only [Int32.lt_iff_toInt_lt, Int64.lt_iff_toInt_lt, ← Int32.toInt_inj, ← Int64.toInt_inj, Int32.reduceToInt, Int64.reduceToInt] at hc3 hc9 hc15 hc21; omega)
          exact ⟨by rw [q]; rfl, N0, rfl⟩
theorem pn_com_example_libxfrag_libxfrag_canonical_NamesIsWhiteSpacePinLaw : plainName "com/example/libxfrag/libxfrag/canonical/NamesIsWhiteSpacePinLaw" = true := by first | (simp [plainName, overriddenIn]; done) | decide +kernel
theorem ef_rm0 (m : MethodId) (p1 : Int32) (p2 : Int32) : entryFrame m #[(.int p1), (.int p2)] maxLocals = mkF m 0 #[.val (.int p1), .val (.int p2), .unset, .unset, .unset] [] := by first | (simp [entryFrame, mkF, argsToLocals, Value.category, maxLocals]; done) | rfl
def Q0 (Z : State) (p1 : Int32) (p2 : Int32) (h0 : Heap) (n0 : Nat) (v : Option Value) (h : Heap) (L : List Loc) : Prop := v = some (.int 1) ∧ Fr n0 L
theorem pd__I_Z : parseMethodDescriptor "(I)Z" = some ⟨[.int], some .boolean⟩ := by decide +kernel
set_option maxRecDepth 65536 in
set_option maxHeartbeats 40000000 in
theorem rm0 (l : Launch) (Z : State) (a0 : Array Value) (hw : ∀ d ∈ tables_1, d.before a0 Z = true) (ws : List Jvm.Cond) (p1 : Int32) (p2 : Int32) (h0 : Heap) (n0 : Nat) (Z0 : n0 ≤ h0.size) :
    MetFree l x (head1 (Jvm.Cond.code x code maxLocals ret :: ws) room_1) (fun a U => a = #[(.int p1), (.int p2)] ∧ Z.Warmed39 U.vm ∧ U.heap = h0) (fun _ _ _ _ _ => True) (fun _ U o U' => ∃ v L, o = .returned v ∧ Q0 Z p1 p2 h0 n0 v U'.heap L ∧ FrameEnd U o U' L room_1.cells room_1.slots) := by
  refine MetFree.of_bodySF (plainFor_of_name pn_com_example_libxfrag_libxfrag_canonical_NamesIsWhiteSpacePinLaw) hisR ?_
  intro p e s m args below meth c s₁ Bd hml0 hP hK
  obtain ⟨rfl, hZ, hh⟩ := hP
  have hx := Bd.exec
  have hby := Bd.bytes
  have hml : c.maxLocals = 5 := hml0
  have hown : s.vm.findClass "com/example/libxfrag/libxfrag/canonical/NamesIsWhiteSpacePinLaw" = some m.cls := findClass_of_methodNamed Bd.named
  have hnm := (name_of_methodNamed Bd.named Bd.method).1
  have hlk := Bd.notSynchronized
  have X0 : Stand p l e room_1 s m #[(.int p1), (.int p2)] below meth c s₁ [] 0 0 := Stand.of_body Bd
  have e0 : s₁.heap = h0 := by rw [← hh, Bd.state]; rfl
  have N0 := Fr.nil n0
  show Go p.tables e below s room_1.cells room_1.slots (Q0 Z p1 p2 h0 n0) _
  refine go (fun t k => castTop (ef_rm0 m p1 p2) k) ?_
  refine go (B := s₁.setTop (mkF m 1 #[.val (.int p1), .val (.int p2), .unset, .unset, .unset] [(.int p2)])) (fun _ k => XS.iloadN X0.here hx rfl (hb hby at_0) rfl k) ?_
  refine go (B := s₁.setTop (mkF m 2 #[.val (.int p1), .val (.int p2), .unset, .unset, .unset] [(.int (1 : Int32)), (.int p2)])) (fun _ k => XS.iconst X0.here hx rfl (hb hby at_1) k) ?_
  refine go (B := s₁.setTop (mkF m 3 #[.val (.int p1), .val (.int p2), .unset, .unset, .unset] [(.int (p2 &&& (1 : Int32)))])) (fun _ k => XS.iand X0.here hx rfl (hb hby at_2) rfl k) ?_
  by_cases hc3 : (p2 &&& (1 : Int32)) = (0 : Int32)
  · refine go (B := s₁.setTop (mkF m 10 #[.val (.int p1), .val (.int p2), .unset, .unset, .unset] [])) (fun _ k => XS.ifYes X0.here hx rfl (pc0 := 3) (pc' := 10) rfl (hb hby at_3) rfl ((if0 _ _).trans (teq hc3).1) (by decide) (by decide) k) ?_
    refine go (B := s₁.setTop (mkF m 11 #[.val (.int p1), .val (.int p2), .unset, .unset, .unset] [(.int (0 : Int32))])) (fun _ k => XS.iconst X0.here hx rfl (hb hby at_10) k) ?_
    refine go (B := s₁.setTop (mkF m 12 #[.val (.int p1), .val (.int p2), .val (.int (0 : Int32)), .unset, .unset] [])) (fun _ k => XS.istoreN X0.here hx rfl (hb hby at_11) rfl (l' := #[.val (.int p1), .val (.int p2), .val (.int (0 : Int32)), .unset, .unset]) rfl k) ?_
    refine go (B := s₁.setTop (mkF m 13 #[.val (.int p1), .val (.int p2), .val (.int (0 : Int32)), .unset, .unset] [(.int (0 : Int32))])) (fun _ k => XS.iloadN X0.here hx rfl (hb hby at_12) rfl k) ?_
    have hc13 : (0 : Int32) = (0 : Int32) := by decide
    refine go (B := s₁.setTop (mkF m 20 #[.val (.int p1), .val (.int p2), .val (.int (0 : Int32)), .unset, .unset] [])) (fun _ k => XS.ifYes X0.here hx rfl (pc0 := 13) (pc' := 20) rfl (hb hby at_13) rfl ((if0 _ _).trans (teq hc13).1) (by decide) (by decide) k) ?_
    refine go (B := s₁.setTop (mkF m 21 #[.val (.int p1), .val (.int p2), .val (.int (0 : Int32)), .unset, .unset] [(.int p1)])) (fun _ k => XS.iloadN X0.here hx rfl (hb hby at_20) rfl k) ?_
    refine go (B := s₁.setTop (mkF m 23 #[.val (.int p1), .val (.int p2), .val (.int (0 : Int32)), .unset, .unset] [(.int (63 : Int32)), (.int p1)])) (fun _ k => XS.bipush X0.here hx rfl (hb hby at_21) k) ?_
    refine go (B := s₁.setTop (mkF m 24 #[.val (.int p1), .val (.int p2), .val (.int (0 : Int32)), .unset, .unset] [(.int (p1 &&& (63 : Int32)))])) (fun _ k => XS.iand X0.here hx rfl (hb hby at_23) rfl k) ?_
    refine go (B := s₁.setTop (mkF m 25 #[.val (.int p1), .val (.int p2), .val (.int (0 : Int32)), .val (.int (p1 &&& (63 : Int32))), .unset] [])) (fun _ k => XS.istoreN X0.here hx rfl (hb hby at_24) rfl (l' := #[.val (.int p1), .val (.int p2), .val (.int (0 : Int32)), .val (.int (p1 &&& (63 : Int32))), .unset]) rfl k) ?_
    refine go (B := s₁.setTop (mkF m 26 #[.val (.int p1), .val (.int p2), .val (.int (0 : Int32)), .val (.int (p1 &&& (63 : Int32))), .unset] [(.int (p1 &&& (63 : Int32)))])) (fun _ k => XS.iloadN X0.here hx rfl (hb hby at_25) rfl k) ?_
    refine go (B := s₁.setTop (mkF m 28 #[.val (.int p1), .val (.int p2), .val (.int (0 : Int32)), .val (.int (p1 &&& (63 : Int32))), .unset] [(.int (9 : Int32)), (.int (p1 &&& (63 : Int32)))])) (fun _ k => XS.bipush X0.here hx rfl (hb hby at_26) k) ?_
    by_cases hc28 : (p1 &&& (63 : Int32)) < (9 : Int32)
    · refine go (B := s₁.setTop (mkF m 49 #[.val (.int p1), .val (.int p2), .val (.int (0 : Int32)), .val (.int (p1 &&& (63 : Int32))), .unset] [])) (fun _ k => XS.icmpYes X0.here hx rfl (pc0 := 28) (pc' := 49) rfl (hb hby at_28) rfl (tlt hc28).1 (by decide) (by decide) k) ?_
      refine go (B := s₁.setTop (mkF m 50 #[.val (.int p1), .val (.int p2), .val (.int (0 : Int32)), .val (.int (p1 &&& (63 : Int32))), .unset] [(.int (p1 &&& (63 : Int32)))])) (fun _ k => XS.iloadN X0.here hx rfl (hb hby at_49) rfl k) ?_
      refine go (B := s₁.setTop (mkF m 52 #[.val (.int p1), .val (.int p2), .val (.int (0 : Int32)), .val (.int (p1 &&& (63 : Int32))), .unset] [(.int (32 : Int32)), (.int (p1 &&& (63 : Int32)))])) (fun _ k => XS.bipush X0.here hx rfl (hb hby at_50) k) ?_
      by_cases hc52 : (p1 &&& (63 : Int32)) = (32 : Int32)
      · refine go (B := s₁.setTop (mkF m 55 #[.val (.int p1), .val (.int p2), .val (.int (0 : Int32)), .val (.int (p1 &&& (63 : Int32))), .unset] [])) (fun _ k => XS.icmpNo X0.here hx rfl (hb hby at_52) rfl (teq hc52).2 k) ?_
        refine go (B := s₁.setTop (mkF m 56 #[.val (.int p1), .val (.int p2), .val (.int (0 : Int32)), .val (.int (p1 &&& (63 : Int32))), .unset] [(.int (1 : Int32))])) (fun _ k => XS.iconst X0.here hx rfl (hb hby at_55) k) ?_
        refine go (B := s₁.setTop (mkF m 60 #[.val (.int p1), .val (.int p2), .val (.int (0 : Int32)), .val (.int (p1 &&& (63 : Int32))), .unset] [(.int (1 : Int32))])) (fun _ k => XS.goto X0.here hx rfl (pc0 := 56) (pc' := 60) rfl (hb hby at_56) (by decide) (by decide) k) ?_
        refine go (B := s₁.setTop (mkF m 62 #[.val (.int p1), .val (.int p2), .val (.int (0 : Int32)), .val (.int (p1 &&& (63 : Int32))), .val (.int (1 : Int32))] [])) (fun _ k => XS.istore X0.here hx rfl (hb hby at_60) rfl (l' := #[.val (.int p1), .val (.int p2), .val (.int (0 : Int32)), .val (.int (p1 &&& (63 : Int32))), .val (.int (1 : Int32))]) rfl k) ?_
        refine go (B := s₁.setTop (mkF m 63 #[.val (.int p1), .val (.int p2), .val (.int (0 : Int32)), .val (.int (p1 &&& (63 : Int32))), .val (.int (1 : Int32))] [(.int (p1 &&& (63 : Int32)))])) (fun _ k => XS.iloadN X0.here hx rfl (hb hby at_62) rfl k) ?_
        obtain ⟨_, _, ⟨T1, L1, k1, n1⟩, -, X1, ⟨Lc1, hQ1, l1, y1, z1⟩, st1⟩ := Jvm.LawKit.callS X0 hx (y := (⟨"com/example/libxfrag/libxfrag/canonical/Names", "isWhiteSpace", "(I)Z"⟩ : MethodName)) hown (mvT hZ (hw _ (List.mem_of_getElem? (i := 0) rfl))) (mvT hZ (hw _ (List.mem_of_getElem? (i := 1) rfl))) (mvT hZ (hw _ (List.mem_of_getElem? (i := 2) rfl))) (mvT hZ (hw _ (List.mem_of_getElem? (i := 3) rfl))) (by decide) (backOf (W := 0) (rm1 l Z a0 hw [] (p1 &&& (63 : Int32)) h0 n0 Z0) hZ (hw _ (List.mem_of_getElem? (i := 3) rfl)) (hw _ (List.mem_of_getElem? (i := 2) rfl)) (by decide) (by decide)) (g := (mkF m 63 #[.val (.int p1), .val (.int p2), .val (.int (0 : Int32)), .val (.int (p1 &&& (63 : Int32))), .val (.int (1 : Int32))] [(.int (p1 &&& (63 : Int32)))])) rfl (by rw [hml]; rfl) (argsL := [(.int (p1 &&& (63 : Int32)))]) (rest := []) (lenOf pd__I_Z rfl) rfl (by show 2 * 0 + _ ≤ _; exact Nat.le_of_eq rfl) (hb hby at_63) (fun _ _ => ⟨rfl, e0, (by decide : 0 + 0 ≤ _), (by decide : 0 + 0 ≤ _)⟩)
        dsimp only [Pt.U, Pt.locs, Pt.cells, Pt.slots] at X1 l1 y1 z1 st1 hQ1
        subst l1 y1 z1
        obtain ⟨rfl, N1q, e1⟩ := hQ1
        have N1 := Fr.app N0 N1q
        refine go (B := T1.setTop (mkF m 66 #[.val (.int p1), .val (.int p2), .val (.int (0 : Int32)), .val (.int (p1 &&& (63 : Int32))), .val (.int (1 : Int32))] [(.int (fWS (p1 &&& (63 : Int32))))])) (fun _ k => st1 _ k) ?_
        refine go (B := T1.setTop (mkF m 68 #[.val (.int p1), .val (.int p2), .val (.int (0 : Int32)), .val (.int (p1 &&& (63 : Int32))), .val (.int (1 : Int32))] [(.int (1 : Int32)), (.int (fWS (p1 &&& (63 : Int32))))])) (fun _ k => XS.iload X1.here hx rfl (hb hby at_66) rfl k) ?_
        by_cases hc68 : (fWS (p1 &&& (63 : Int32))) = (1 : Int32)
        · refine go (B := T1.setTop (mkF m 71 #[.val (.int p1), .val (.int p2), .val (.int (0 : Int32)), .val (.int (p1 &&& (63 : Int32))), .val (.int (1 : Int32))] [])) (fun _ k => XS.icmpNo X1.here hx rfl (hb hby at_68) rfl (teq hc68).2 k) ?_
          refine go (B := T1.setTop (mkF m 72 #[.val (.int p1), .val (.int p2), .val (.int (0 : Int32)), .val (.int (p1 &&& (63 : Int32))), .val (.int (1 : Int32))] [(.int (1 : Int32))])) (fun _ k => XS.iconst X1.here hx rfl (hb hby at_71) k) ?_
          refine go (B := T1.setTop (mkF m 76 #[.val (.int p1), .val (.int p2), .val (.int (0 : Int32)), .val (.int (p1 &&& (63 : Int32))), .val (.int (1 : Int32))] [(.int (1 : Int32))])) (fun _ k => XS.goto X1.here hx rfl (pc0 := 72) (pc' := 76) rfl (hb hby at_72) (by decide) (by decide) k) ?_
          refine goRetN X1 hx (t := .boolean) Bd.returns (by simp) hlk (hb hby at_76) ?_ (by decide) (by decide)
          rw [e1]
          exact ⟨rfl, N1⟩
        · refine go (B := T1.setTop (mkF m 75 #[.val (.int p1), .val (.int p2), .val (.int (0 : Int32)), .val (.int (p1 &&& (63 : Int32))), .val (.int (1 : Int32))] [])) (fun _ k => XS.icmpYes X1.here hx rfl (pc0 := 68) (pc' := 75) rfl (hb hby at_68) rfl (feq hc68).2 (by decide) (by decide) k) ?_
          refine go (B := T1.setTop (mkF m 76 #[.val (.int p1), .val (.int p2), .val (.int (0 : Int32)), .val (.int (p1 &&& (63 : Int32))), .val (.int (1 : Int32))] [(.int (0 : Int32))])) (fun _ k => XS.iconst X1.here hx rfl (hb hby at_75) k) ?_
          refine goRetN X1 hx (t := .boolean) Bd.returns (by simp) hlk (hb hby at_76) ?_ (by decide) (by decide)
          rw [e1]
          exfalso
          have q := fWS_int (p1 &&& (63 : Int32))
          simp only [Int32.lt_iff_toInt_lt, Int64.lt_iff_toInt_lt, ← Int32.toInt_inj, ← Int64.toInt_inj, Int32.reduceToInt, Int64.reduceToInt] at  hc3 hc28 hc52 hc68
          omega
      · refine go (B := s₁.setTop (mkF m 59 #[.val (.int p1), .val (.int p2), .val (.int (0 : Int32)), .val (.int (p1 &&& (63 : Int32))), .unset] [])) (fun _ k => XS.icmpYes X0.here hx rfl (pc0 := 52) (pc' := 59) rfl (hb hby at_52) rfl (feq hc52).2 (by decide) (by decide) k) ?_
        refine go (B := s₁.setTop (mkF m 60 #[.val (.int p1), .val (.int p2), .val (.int (0 : Int32)), .val (.int (p1 &&& (63 : Int32))), .unset] [(.int (0 : Int32))])) (fun _ k => XS.iconst X0.here hx rfl (hb hby at_59) k) ?_
        refine go (B := s₁.setTop (mkF m 62 #[.val (.int p1), .val (.int p2), .val (.int (0 : Int32)), .val (.int (p1 &&& (63 : Int32))), .val (.int (0 : Int32))] [])) (fun _ k => XS.istore X0.here hx rfl (hb hby at_60) rfl (l' := #[.val (.int p1), .val (.int p2), .val (.int (0 : Int32)), .val (.int (p1 &&& (63 : Int32))), .val (.int (0 : Int32))]) rfl k) ?_
        refine go (B := s₁.setTop (mkF m 63 #[.val (.int p1), .val (.int p2), .val (.int (0 : Int32)), .val (.int (p1 &&& (63 : Int32))), .val (.int (0 : Int32))] [(.int (p1 &&& (63 : Int32)))])) (fun _ k => XS.iloadN X0.here hx rfl (hb hby at_62) rfl k) ?_
        obtain ⟨_, _, ⟨T2, L2, k2, n2⟩, -, X2, ⟨Lc2, hQ2, l2, y2, z2⟩, st2⟩ := Jvm.LawKit.callS X0 hx (y := (⟨"com/example/libxfrag/libxfrag/canonical/Names", "isWhiteSpace", "(I)Z"⟩ : MethodName)) hown (mvT hZ (hw _ (List.mem_of_getElem? (i := 0) rfl))) (mvT hZ (hw _ (List.mem_of_getElem? (i := 1) rfl))) (mvT hZ (hw _ (List.mem_of_getElem? (i := 2) rfl))) (mvT hZ (hw _ (List.mem_of_getElem? (i := 3) rfl))) (by decide) (backOf (W := 0) (rm1 l Z a0 hw [] (p1 &&& (63 : Int32)) h0 n0 Z0) hZ (hw _ (List.mem_of_getElem? (i := 3) rfl)) (hw _ (List.mem_of_getElem? (i := 2) rfl)) (by decide) (by decide)) (g := (mkF m 63 #[.val (.int p1), .val (.int p2), .val (.int (0 : Int32)), .val (.int (p1 &&& (63 : Int32))), .val (.int (0 : Int32))] [(.int (p1 &&& (63 : Int32)))])) rfl (by rw [hml]; rfl) (argsL := [(.int (p1 &&& (63 : Int32)))]) (rest := []) (lenOf pd__I_Z rfl) rfl (by show 2 * 0 + _ ≤ _; exact Nat.le_of_eq rfl) (hb hby at_63) (fun _ _ => ⟨rfl, e0, (by decide : 0 + 0 ≤ _), (by decide : 0 + 0 ≤ _)⟩)
        dsimp only [Pt.U, Pt.locs, Pt.cells, Pt.slots] at X2 l2 y2 z2 st2 hQ2
        subst l2 y2 z2
        obtain ⟨rfl, N2q, e2⟩ := hQ2
        have N2 := Fr.app N0 N2q
        refine go (B := T2.setTop (mkF m 66 #[.val (.int p1), .val (.int p2), .val (.int (0 : Int32)), .val (.int (p1 &&& (63 : Int32))), .val (.int (0 : Int32))] [(.int (fWS (p1 &&& (63 : Int32))))])) (fun _ k => st2 _ k) ?_
        refine go (B := T2.setTop (mkF m 68 #[.val (.int p1), .val (.int p2), .val (.int (0 : Int32)), .val (.int (p1 &&& (63 : Int32))), .val (.int (0 : Int32))] [(.int (0 : Int32)), (.int (fWS (p1 &&& (63 : Int32))))])) (fun _ k => XS.iload X2.here hx rfl (hb hby at_66) rfl k) ?_
        by_cases hc68 : (fWS (p1 &&& (63 : Int32))) = (0 : Int32)
        · refine go (B := T2.setTop (mkF m 71 #[.val (.int p1), .val (.int p2), .val (.int (0 : Int32)), .val (.int (p1 &&& (63 : Int32))), .val (.int (0 : Int32))] [])) (fun _ k => XS.icmpNo X2.here hx rfl (hb hby at_68) rfl (teq hc68).2 k) ?_
          refine go (B := T2.setTop (mkF m 72 #[.val (.int p1), .val (.int p2), .val (.int (0 : Int32)), .val (.int (p1 &&& (63 : Int32))), .val (.int (0 : Int32))] [(.int (1 : Int32))])) (fun _ k => XS.iconst X2.here hx rfl (hb hby at_71) k) ?_
          refine go (B := T2.setTop (mkF m 76 #[.val (.int p1), .val (.int p2), .val (.int (0 : Int32)), .val (.int (p1 &&& (63 : Int32))), .val (.int (0 : Int32))] [(.int (1 : Int32))])) (fun _ k => XS.goto X2.here hx rfl (pc0 := 72) (pc' := 76) rfl (hb hby at_72) (by decide) (by decide) k) ?_
          refine goRetN X2 hx (t := .boolean) Bd.returns (by simp) hlk (hb hby at_76) ?_ (by decide) (by decide)
          rw [e2]
          exact ⟨rfl, N2⟩
        · refine go (B := T2.setTop (mkF m 75 #[.val (.int p1), .val (.int p2), .val (.int (0 : Int32)), .val (.int (p1 &&& (63 : Int32))), .val (.int (0 : Int32))] [])) (fun _ k => XS.icmpYes X2.here hx rfl (pc0 := 68) (pc' := 75) rfl (hb hby at_68) rfl (feq hc68).2 (by decide) (by decide) k) ?_
          refine go (B := T2.setTop (mkF m 76 #[.val (.int p1), .val (.int p2), .val (.int (0 : Int32)), .val (.int (p1 &&& (63 : Int32))), .val (.int (0 : Int32))] [(.int (0 : Int32))])) (fun _ k => XS.iconst X2.here hx rfl (hb hby at_75) k) ?_
          refine goRetN X2 hx (t := .boolean) Bd.returns (by simp) hlk (hb hby at_76) ?_ (by decide) (by decide)
          rw [e2]
          exfalso
          have q := fWS_int (p1 &&& (63 : Int32))
          simp only [Int32.lt_iff_toInt_lt, Int64.lt_iff_toInt_lt, ← Int32.toInt_inj, ← Int64.toInt_inj, Int32.reduceToInt, Int64.reduceToInt] at  hc3 hc28 hc52 hc68
          omega
    · refine go (B := s₁.setTop (mkF m 31 #[.val (.int p1), .val (.int p2), .val (.int (0 : Int32)), .val (.int (p1 &&& (63 : Int32))), .unset] [])) (fun _ k => XS.icmpNo X0.here hx rfl (hb hby at_28) rfl (flt hc28).1 k) ?_
      refine go (B := s₁.setTop (mkF m 32 #[.val (.int p1), .val (.int p2), .val (.int (0 : Int32)), .val (.int (p1 &&& (63 : Int32))), .unset] [(.int (p1 &&& (63 : Int32)))])) (fun _ k => XS.iloadN X0.here hx rfl (hb hby at_31) rfl k) ?_
      refine go (B := s₁.setTop (mkF m 34 #[.val (.int p1), .val (.int p2), .val (.int (0 : Int32)), .val (.int (p1 &&& (63 : Int32))), .unset] [(.int (13 : Int32)), (.int (p1 &&& (63 : Int32)))])) (fun _ k => XS.bipush X0.here hx rfl (hb hby at_32) k) ?_
      by_cases hc34 : (13 : Int32) < (p1 &&& (63 : Int32))
      · refine go (B := s₁.setTop (mkF m 49 #[.val (.int p1), .val (.int p2), .val (.int (0 : Int32)), .val (.int (p1 &&& (63 : Int32))), .unset] [])) (fun _ k => XS.icmpYes X0.here hx rfl (pc0 := 34) (pc' := 49) rfl (hb hby at_34) rfl (tlt hc34).2.2.1 (by decide) (by decide) k) ?_
        refine go (B := s₁.setTop (mkF m 50 #[.val (.int p1), .val (.int p2), .val (.int (0 : Int32)), .val (.int (p1 &&& (63 : Int32))), .unset] [(.int (p1 &&& (63 : Int32)))])) (fun _ k => XS.iloadN X0.here hx rfl (hb hby at_49) rfl k) ?_
        refine go (B := s₁.setTop (mkF m 52 #[.val (.int p1), .val (.int p2), .val (.int (0 : Int32)), .val (.int (p1 &&& (63 : Int32))), .unset] [(.int (32 : Int32)), (.int (p1 &&& (63 : Int32)))])) (fun _ k => XS.bipush X0.here hx rfl (hb hby at_50) k) ?_
        by_cases hc52 : (p1 &&& (63 : Int32)) = (32 : Int32)
        · refine go (B := s₁.setTop (mkF m 55 #[.val (.int p1), .val (.int p2), .val (.int (0 : Int32)), .val (.int (p1 &&& (63 : Int32))), .unset] [])) (fun _ k => XS.icmpNo X0.here hx rfl (hb hby at_52) rfl (teq hc52).2 k) ?_
          refine go (B := s₁.setTop (mkF m 56 #[.val (.int p1), .val (.int p2), .val (.int (0 : Int32)), .val (.int (p1 &&& (63 : Int32))), .unset] [(.int (1 : Int32))])) (fun _ k => XS.iconst X0.here hx rfl (hb hby at_55) k) ?_
          refine go (B := s₁.setTop (mkF m 60 #[.val (.int p1), .val (.int p2), .val (.int (0 : Int32)), .val (.int (p1 &&& (63 : Int32))), .unset] [(.int (1 : Int32))])) (fun _ k => XS.goto X0.here hx rfl (pc0 := 56) (pc' := 60) rfl (hb hby at_56) (by decide) (by decide) k) ?_
          refine go (B := s₁.setTop (mkF m 62 #[.val (.int p1), .val (.int p2), .val (.int (0 : Int32)), .val (.int (p1 &&& (63 : Int32))), .val (.int (1 : Int32))] [])) (fun _ k => XS.istore X0.here hx rfl (hb hby at_60) rfl (l' := #[.val (.int p1), .val (.int p2), .val (.int (0 : Int32)), .val (.int (p1 &&& (63 : Int32))), .val (.int (1 : Int32))]) rfl k) ?_
          refine go (B := s₁.setTop (mkF m 63 #[.val (.int p1), .val (.int p2), .val (.int (0 : Int32)), .val (.int (p1 &&& (63 : Int32))), .val (.int (1 : Int32))] [(.int (p1 &&& (63 : Int32)))])) (fun _ k => XS.iloadN X0.here hx rfl (hb hby at_62) rfl k) ?_
          obtain ⟨_, _, ⟨T3, L3, k3, n3⟩, -, X3, ⟨Lc3, hQ3, l3, y3, z3⟩, st3⟩ := Jvm.LawKit.callS X0 hx (y := (⟨"com/example/libxfrag/libxfrag/canonical/Names", "isWhiteSpace", "(I)Z"⟩ : MethodName)) hown (mvT hZ (hw _ (List.mem_of_getElem? (i := 0) rfl))) (mvT hZ (hw _ (List.mem_of_getElem? (i := 1) rfl))) (mvT hZ (hw _ (List.mem_of_getElem? (i := 2) rfl))) (mvT hZ (hw _ (List.mem_of_getElem? (i := 3) rfl))) (by decide) (backOf (W := 0) (rm1 l Z a0 hw [] (p1 &&& (63 : Int32)) h0 n0 Z0) hZ (hw _ (List.mem_of_getElem? (i := 3) rfl)) (hw _ (List.mem_of_getElem? (i := 2) rfl)) (by decide) (by decide)) (g := (mkF m 63 #[.val (.int p1), .val (.int p2), .val (.int (0 : Int32)), .val (.int (p1 &&& (63 : Int32))), .val (.int (1 : Int32))] [(.int (p1 &&& (63 : Int32)))])) rfl (by rw [hml]; rfl) (argsL := [(.int (p1 &&& (63 : Int32)))]) (rest := []) (lenOf pd__I_Z rfl) rfl (by show 2 * 0 + _ ≤ _; exact Nat.le_of_eq rfl) (hb hby at_63) (fun _ _ => ⟨rfl, e0, (by decide : 0 + 0 ≤ _), (by decide : 0 + 0 ≤ _)⟩)
          dsimp only [Pt.U, Pt.locs, Pt.cells, Pt.slots] at X3 l3 y3 z3 st3 hQ3
          subst l3 y3 z3
          obtain ⟨rfl, N3q, e3⟩ := hQ3
          have N3 := Fr.app N0 N3q
          refine go (B := T3.setTop (mkF m 66 #[.val (.int p1), .val (.int p2), .val (.int (0 : Int32)), .val (.int (p1 &&& (63 : Int32))), .val (.int (1 : Int32))] [(.int (fWS (p1 &&& (63 : Int32))))])) (fun _ k => st3 _ k) ?_
          refine go (B := T3.setTop (mkF m 68 #[.val (.int p1), .val (.int p2), .val (.int (0 : Int32)), .val (.int (p1 &&& (63 : Int32))), .val (.int (1 : Int32))] [(.int (1 : Int32)), (.int (fWS (p1 &&& (63 : Int32))))])) (fun _ k => XS.iload X3.here hx rfl (hb hby at_66) rfl k) ?_
          by_cases hc68 : (fWS (p1 &&& (63 : Int32))) = (1 : Int32)
          · refine go (B := T3.setTop (mkF m 71 #[.val (.int p1), .val (.int p2), .val (.int (0 : Int32)), .val (.int (p1 &&& (63 : Int32))), .val (.int (1 : Int32))] [])) (fun _ k => XS.icmpNo X3.here hx rfl (hb hby at_68) rfl (teq hc68).2 k) ?_
            refine go (B := T3.setTop (mkF m 72 #[.val (.int p1), .val (.int p2), .val (.int (0 : Int32)), .val (.int (p1 &&& (63 : Int32))), .val (.int (1 : Int32))] [(.int (1 : Int32))])) (fun _ k => XS.iconst X3.here hx rfl (hb hby at_71) k) ?_
            refine go (B := T3.setTop (mkF m 76 #[.val (.int p1), .val (.int p2), .val (.int (0 : Int32)), .val (.int (p1 &&& (63 : Int32))), .val (.int (1 : Int32))] [(.int (1 : Int32))])) (fun _ k => XS.goto X3.here hx rfl (pc0 := 72) (pc' := 76) rfl (hb hby at_72) (by decide) (by decide) k) ?_
            refine goRetN X3 hx (t := .boolean) Bd.returns (by simp) hlk (hb hby at_76) ?_ (by decide) (by decide)
            rw [e3]
            exact ⟨rfl, N3⟩
          · refine go (B := T3.setTop (mkF m 75 #[.val (.int p1), .val (.int p2), .val (.int (0 : Int32)), .val (.int (p1 &&& (63 : Int32))), .val (.int (1 : Int32))] [])) (fun _ k => XS.icmpYes X3.here hx rfl (pc0 := 68) (pc' := 75) rfl (hb hby at_68) rfl (feq hc68).2 (by decide) (by decide) k) ?_
            refine go (B := T3.setTop (mkF m 76 #[.val (.int p1), .val (.int p2), .val (.int (0 : Int32)), .val (.int (p1 &&& (63 : Int32))), .val (.int (1 : Int32))] [(.int (0 : Int32))])) (fun _ k => XS.iconst X3.here hx rfl (hb hby at_75) k) ?_
            refine goRetN X3 hx (t := .boolean) Bd.returns (by simp) hlk (hb hby at_76) ?_ (by decide) (by decide)
            rw [e3]
            exfalso
            have q := fWS_int (p1 &&& (63 : Int32))
            simp only [Int32.lt_iff_toInt_lt, Int64.lt_iff_toInt_lt, ← Int32.toInt_inj, ← Int64.toInt_inj, Int32.reduceToInt, Int64.reduceToInt] at  hc3 hc28 hc34 hc52 hc68
            omega
        · refine go (B := s₁.setTop (mkF m 59 #[.val (.int p1), .val (.int p2), .val (.int (0 : Int32)), .val (.int (p1 &&& (63 : Int32))), .unset] [])) (fun _ k => XS.icmpYes X0.here hx rfl (pc0 := 52) (pc' := 59) rfl (hb hby at_52) rfl (feq hc52).2 (by decide) (by decide) k) ?_
          refine go (B := s₁.setTop (mkF m 60 #[.val (.int p1), .val (.int p2), .val (.int (0 : Int32)), .val (.int (p1 &&& (63 : Int32))), .unset] [(.int (0 : Int32))])) (fun _ k => XS.iconst X0.here hx rfl (hb hby at_59) k) ?_
          refine go (B := s₁.setTop (mkF m 62 #[.val (.int p1), .val (.int p2), .val (.int (0 : Int32)), .val (.int (p1 &&& (63 : Int32))), .val (.int (0 : Int32))] [])) (fun _ k => XS.istore X0.here hx rfl (hb hby at_60) rfl (l' := #[.val (.int p1), .val (.int p2), .val (.int (0 : Int32)), .val (.int (p1 &&& (63 : Int32))), .val (.int (0 : Int32))]) rfl k) ?_
          refine go (B := s₁.setTop (mkF m 63 #[.val (.int p1), .val (.int p2), .val (.int (0 : Int32)), .val (.int (p1 &&& (63 : Int32))), .val (.int (0 : Int32))] [(.int (p1 &&& (63 : Int32)))])) (fun _ k => XS.iloadN X0.here hx rfl (hb hby at_62) rfl k) ?_
          obtain ⟨_, _, ⟨T4, L4, k4, n4⟩, -, X4, ⟨Lc4, hQ4, l4, y4, z4⟩, st4⟩ := Jvm.LawKit.callS X0 hx (y := (⟨"com/example/libxfrag/libxfrag/canonical/Names", "isWhiteSpace", "(I)Z"⟩ : MethodName)) hown (mvT hZ (hw _ (List.mem_of_getElem? (i := 0) rfl))) (mvT hZ (hw _ (List.mem_of_getElem? (i := 1) rfl))) (mvT hZ (hw _ (List.mem_of_getElem? (i := 2) rfl))) (mvT hZ (hw _ (List.mem_of_getElem? (i := 3) rfl))) (by decide) (backOf (W := 0) (rm1 l Z a0 hw [] (p1 &&& (63 : Int32)) h0 n0 Z0) hZ (hw _ (List.mem_of_getElem? (i := 3) rfl)) (hw _ (List.mem_of_getElem? (i := 2) rfl)) (by decide) (by decide)) (g := (mkF m 63 #[.val (.int p1), .val (.int p2), .val (.int (0 : Int32)), .val (.int (p1 &&& (63 : Int32))), .val (.int (0 : Int32))] [(.int (p1 &&& (63 : Int32)))])) rfl (by rw [hml]; rfl) (argsL := [(.int (p1 &&& (63 : Int32)))]) (rest := []) (lenOf pd__I_Z rfl) rfl (by show 2 * 0 + _ ≤ _; exact Nat.le_of_eq rfl) (hb hby at_63) (fun _ _ => ⟨rfl, e0, (by decide : 0 + 0 ≤ _), (by decide : 0 + 0 ≤ _)⟩)
          dsimp only [Pt.U, Pt.locs, Pt.cells, Pt.slots] at X4 l4 y4 z4 st4 hQ4
          subst l4 y4 z4
          obtain ⟨rfl, N4q, e4⟩ := hQ4
          have N4 := Fr.app N0 N4q
          refine go (B := T4.setTop (mkF m 66 #[.val (.int p1), .val (.int p2), .val (.int (0 : Int32)), .val (.int (p1 &&& (63 : Int32))), .val (.int (0 : Int32))] [(.int (fWS (p1 &&& (63 : Int32))))])) (fun _ k => st4 _ k) ?_
          refine go (B := T4.setTop (mkF m 68 #[.val (.int p1), .val (.int p2), .val (.int (0 : Int32)), .val (.int (p1 &&& (63 : Int32))), .val (.int (0 : Int32))] [(.int (0 : Int32)), (.int (fWS (p1 &&& (63 : Int32))))])) (fun _ k => XS.iload X4.here hx rfl (hb hby at_66) rfl k) ?_
          by_cases hc68 : (fWS (p1 &&& (63 : Int32))) = (0 : Int32)
          · refine go (B := T4.setTop (mkF m 71 #[.val (.int p1), .val (.int p2), .val (.int (0 : Int32)), .val (.int (p1 &&& (63 : Int32))), .val (.int (0 : Int32))] [])) (fun _ k => XS.icmpNo X4.here hx rfl (hb hby at_68) rfl (teq hc68).2 k) ?_
            refine go (B := T4.setTop (mkF m 72 #[.val (.int p1), .val (.int p2), .val (.int (0 : Int32)), .val (.int (p1 &&& (63 : Int32))), .val (.int (0 : Int32))] [(.int (1 : Int32))])) (fun _ k => XS.iconst X4.here hx rfl (hb hby at_71) k) ?_
            refine go (B := T4.setTop (mkF m 76 #[.val (.int p1), .val (.int p2), .val (.int (0 : Int32)), .val (.int (p1 &&& (63 : Int32))), .val (.int (0 : Int32))] [(.int (1 : Int32))])) (fun _ k => XS.goto X4.here hx rfl (pc0 := 72) (pc' := 76) rfl (hb hby at_72) (by decide) (by decide) k) ?_
            refine goRetN X4 hx (t := .boolean) Bd.returns (by simp) hlk (hb hby at_76) ?_ (by decide) (by decide)
            rw [e4]
            exact ⟨rfl, N4⟩
          · refine go (B := T4.setTop (mkF m 75 #[.val (.int p1), .val (.int p2), .val (.int (0 : Int32)), .val (.int (p1 &&& (63 : Int32))), .val (.int (0 : Int32))] [])) (fun _ k => XS.icmpYes X4.here hx rfl (pc0 := 68) (pc' := 75) rfl (hb hby at_68) rfl (feq hc68).2 (by decide) (by decide) k) ?_
            refine go (B := T4.setTop (mkF m 76 #[.val (.int p1), .val (.int p2), .val (.int (0 : Int32)), .val (.int (p1 &&& (63 : Int32))), .val (.int (0 : Int32))] [(.int (0 : Int32))])) (fun _ k => XS.iconst X4.here hx rfl (hb hby at_75) k) ?_
            refine goRetN X4 hx (t := .boolean) Bd.returns (by simp) hlk (hb hby at_76) ?_ (by decide) (by decide)
            rw [e4]
            exfalso
            have q := fWS_int (p1 &&& (63 : Int32))
            simp only [Int32.lt_iff_toInt_lt, Int64.lt_iff_toInt_lt, ← Int32.toInt_inj, ← Int64.toInt_inj, Int32.reduceToInt, Int64.reduceToInt] at  hc3 hc28 hc34 hc52 hc68
            omega
      · refine go (B := s₁.setTop (mkF m 37 #[.val (.int p1), .val (.int p2), .val (.int (0 : Int32)), .val (.int (p1 &&& (63 : Int32))), .unset] [])) (fun _ k => XS.icmpNo X0.here hx rfl (hb hby at_34) rfl (flt hc34).2.2.1 k) ?_
        refine go (B := s₁.setTop (mkF m 38 #[.val (.int p1), .val (.int p2), .val (.int (0 : Int32)), .val (.int (p1 &&& (63 : Int32))), .unset] [(.int (p1 &&& (63 : Int32)))])) (fun _ k => XS.iloadN X0.here hx rfl (hb hby at_37) rfl k) ?_
        refine go (B := s₁.setTop (mkF m 40 #[.val (.int p1), .val (.int p2), .val (.int (0 : Int32)), .val (.int (p1 &&& (63 : Int32))), .unset] [(.int (11 : Int32)), (.int (p1 &&& (63 : Int32)))])) (fun _ k => XS.bipush X0.here hx rfl (hb hby at_38) k) ?_
        by_cases hc40 : (p1 &&& (63 : Int32)) = (11 : Int32)
        · refine go (B := s₁.setTop (mkF m 49 #[.val (.int p1), .val (.int p2), .val (.int (0 : Int32)), .val (.int (p1 &&& (63 : Int32))), .unset] [])) (fun _ k => XS.icmpYes X0.here hx rfl (pc0 := 40) (pc' := 49) rfl (hb hby at_40) rfl (teq hc40).1 (by decide) (by decide) k) ?_
          refine go (B := s₁.setTop (mkF m 50 #[.val (.int p1), .val (.int p2), .val (.int (0 : Int32)), .val (.int (p1 &&& (63 : Int32))), .unset] [(.int (p1 &&& (63 : Int32)))])) (fun _ k => XS.iloadN X0.here hx rfl (hb hby at_49) rfl k) ?_
          refine go (B := s₁.setTop (mkF m 52 #[.val (.int p1), .val (.int p2), .val (.int (0 : Int32)), .val (.int (p1 &&& (63 : Int32))), .unset] [(.int (32 : Int32)), (.int (p1 &&& (63 : Int32)))])) (fun _ k => XS.bipush X0.here hx rfl (hb hby at_50) k) ?_
          by_cases hc52 : (p1 &&& (63 : Int32)) = (32 : Int32)
          · refine go (B := s₁.setTop (mkF m 55 #[.val (.int p1), .val (.int p2), .val (.int (0 : Int32)), .val (.int (p1 &&& (63 : Int32))), .unset] [])) (fun _ k => XS.icmpNo X0.here hx rfl (hb hby at_52) rfl (teq hc52).2 k) ?_
            refine go (B := s₁.setTop (mkF m 56 #[.val (.int p1), .val (.int p2), .val (.int (0 : Int32)), .val (.int (p1 &&& (63 : Int32))), .unset] [(.int (1 : Int32))])) (fun _ k => XS.iconst X0.here hx rfl (hb hby at_55) k) ?_
            refine go (B := s₁.setTop (mkF m 60 #[.val (.int p1), .val (.int p2), .val (.int (0 : Int32)), .val (.int (p1 &&& (63 : Int32))), .unset] [(.int (1 : Int32))])) (fun _ k => XS.goto X0.here hx rfl (pc0 := 56) (pc' := 60) rfl (hb hby at_56) (by decide) (by decide) k) ?_
            refine go (B := s₁.setTop (mkF m 62 #[.val (.int p1), .val (.int p2), .val (.int (0 : Int32)), .val (.int (p1 &&& (63 : Int32))), .val (.int (1 : Int32))] [])) (fun _ k => XS.istore X0.here hx rfl (hb hby at_60) rfl (l' := #[.val (.int p1), .val (.int p2), .val (.int (0 : Int32)), .val (.int (p1 &&& (63 : Int32))), .val (.int (1 : Int32))]) rfl k) ?_
            refine go (B := s₁.setTop (mkF m 63 #[.val (.int p1), .val (.int p2), .val (.int (0 : Int32)), .val (.int (p1 &&& (63 : Int32))), .val (.int (1 : Int32))] [(.int (p1 &&& (63 : Int32)))])) (fun _ k => XS.iloadN X0.here hx rfl (hb hby at_62) rfl k) ?_
            obtain ⟨_, _, ⟨T5, L5, k5, n5⟩, -, X5, ⟨Lc5, hQ5, l5, y5, z5⟩, st5⟩ := Jvm.LawKit.callS X0 hx (y := (⟨"com/example/libxfrag/libxfrag/canonical/Names", "isWhiteSpace", "(I)Z"⟩ : MethodName)) hown (mvT hZ (hw _ (List.mem_of_getElem? (i := 0) rfl))) (mvT hZ (hw _ (List.mem_of_getElem? (i := 1) rfl))) (mvT hZ (hw _ (List.mem_of_getElem? (i := 2) rfl))) (mvT hZ (hw _ (List.mem_of_getElem? (i := 3) rfl))) (by decide) (backOf (W := 0) (rm1 l Z a0 hw [] (p1 &&& (63 : Int32)) h0 n0 Z0) hZ (hw _ (List.mem_of_getElem? (i := 3) rfl)) (hw _ (List.mem_of_getElem? (i := 2) rfl)) (by decide) (by decide)) (g := (mkF m 63 #[.val (.int p1), .val (.int p2), .val (.int (0 : Int32)), .val (.int (p1 &&& (63 : Int32))), .val (.int (1 : Int32))] [(.int (p1 &&& (63 : Int32)))])) rfl (by rw [hml]; rfl) (argsL := [(.int (p1 &&& (63 : Int32)))]) (rest := []) (lenOf pd__I_Z rfl) rfl (by show 2 * 0 + _ ≤ _; exact Nat.le_of_eq rfl) (hb hby at_63) (fun _ _ => ⟨rfl, e0, (by decide : 0 + 0 ≤ _), (by decide : 0 + 0 ≤ _)⟩)
            dsimp only [Pt.U, Pt.locs, Pt.cells, Pt.slots] at X5 l5 y5 z5 st5 hQ5
            subst l5 y5 z5
            obtain ⟨rfl, N5q, e5⟩ := hQ5
            have N5 := Fr.app N0 N5q
            refine go (B := T5.setTop (mkF m 66 #[.val (.int p1), .val (.int p2), .val (.int (0 : Int32)), .val (.int (p1 &&& (63 : Int32))), .val (.int (1 : Int32))] [(.int (fWS (p1 &&& (63 : Int32))))])) (fun _ k => st5 _ k) ?_
            refine go (B := T5.setTop (mkF m 68 #[.val (.int p1), .val (.int p2), .val (.int (0 : Int32)), .val (.int (p1 &&& (63 : Int32))), .val (.int (1 : Int32))] [(.int (1 : Int32)), (.int (fWS (p1 &&& (63 : Int32))))])) (fun _ k => XS.iload X5.here hx rfl (hb hby at_66) rfl k) ?_
            by_cases hc68 : (fWS (p1 &&& (63 : Int32))) = (1 : Int32)
            · refine go (B := T5.setTop (mkF m 71 #[.val (.int p1), .val (.int p2), .val (.int (0 : Int32)), .val (.int (p1 &&& (63 : Int32))), .val (.int (1 : Int32))] [])) (fun _ k => XS.icmpNo X5.here hx rfl (hb hby at_68) rfl (teq hc68).2 k) ?_
              refine go (B := T5.setTop (mkF m 72 #[.val (.int p1), .val (.int p2), .val (.int (0 : Int32)), .val (.int (p1 &&& (63 : Int32))), .val (.int (1 : Int32))] [(.int (1 : Int32))])) (fun _ k => XS.iconst X5.here hx rfl (hb hby at_71) k) ?_
              refine go (B := T5.setTop (mkF m 76 #[.val (.int p1), .val (.int p2), .val (.int (0 : Int32)), .val (.int (p1 &&& (63 : Int32))), .val (.int (1 : Int32))] [(.int (1 : Int32))])) (fun _ k => XS.goto X5.here hx rfl (pc0 := 72) (pc' := 76) rfl (hb hby at_72) (by decide) (by decide) k) ?_
              refine goRetN X5 hx (t := .boolean) Bd.returns (by simp) hlk (hb hby at_76) ?_ (by decide) (by decide)
              rw [e5]
              exact ⟨rfl, N5⟩
            · refine go (B := T5.setTop (mkF m 75 #[.val (.int p1), .val (.int p2), .val (.int (0 : Int32)), .val (.int (p1 &&& (63 : Int32))), .val (.int (1 : Int32))] [])) (fun _ k => XS.icmpYes X5.here hx rfl (pc0 := 68) (pc' := 75) rfl (hb hby at_68) rfl (feq hc68).2 (by decide) (by decide) k) ?_
              refine go (B := T5.setTop (mkF m 76 #[.val (.int p1), .val (.int p2), .val (.int (0 : Int32)), .val (.int (p1 &&& (63 : Int32))), .val (.int (1 : Int32))] [(.int (0 : Int32))])) (fun _ k => XS.iconst X5.here hx rfl (hb hby at_75) k) ?_
              refine goRetN X5 hx (t := .boolean) Bd.returns (by simp) hlk (hb hby at_76) ?_ (by decide) (by decide)
              rw [e5]
              exfalso
              have q := fWS_int (p1 &&& (63 : Int32))
              simp only [Int32.lt_iff_toInt_lt, Int64.lt_iff_toInt_lt, ← Int32.toInt_inj, ← Int64.toInt_inj, Int32.reduceToInt, Int64.reduceToInt] at  hc3 hc28 hc34 hc40 hc52 hc68
              omega
          · refine go (B := s₁.setTop (mkF m 59 #[.val (.int p1), .val (.int p2), .val (.int (0 : Int32)), .val (.int (p1 &&& (63 : Int32))), .unset] [])) (fun _ k => XS.icmpYes X0.here hx rfl (pc0 := 52) (pc' := 59) rfl (hb hby at_52) rfl (feq hc52).2 (by decide) (by decide) k) ?_
            refine go (B := s₁.setTop (mkF m 60 #[.val (.int p1), .val (.int p2), .val (.int (0 : Int32)), .val (.int (p1 &&& (63 : Int32))), .unset] [(.int (0 : Int32))])) (fun _ k => XS.iconst X0.here hx rfl (hb hby at_59) k) ?_
            refine go (B := s₁.setTop (mkF m 62 #[.val (.int p1), .val (.int p2), .val (.int (0 : Int32)), .val (.int (p1 &&& (63 : Int32))), .val (.int (0 : Int32))] [])) (fun _ k => XS.istore X0.here hx rfl (hb hby at_60) rfl (l' := #[.val (.int p1), .val (.int p2), .val (.int (0 : Int32)), .val (.int (p1 &&& (63 : Int32))), .val (.int (0 : Int32))]) rfl k) ?_
            refine go (B := s₁.setTop (mkF m 63 #[.val (.int p1), .val (.int p2), .val (.int (0 : Int32)), .val (.int (p1 &&& (63 : Int32))), .val (.int (0 : Int32))] [(.int (p1 &&& (63 : Int32)))])) (fun _ k => XS.iloadN X0.here hx rfl (hb hby at_62) rfl k) ?_
            obtain ⟨_, _, ⟨T6, L6, k6, n6⟩, -, X6, ⟨Lc6, hQ6, l6, y6, z6⟩, st6⟩ := Jvm.LawKit.callS X0 hx (y := (⟨"com/example/libxfrag/libxfrag/canonical/Names", "isWhiteSpace", "(I)Z"⟩ : MethodName)) hown (mvT hZ (hw _ (List.mem_of_getElem? (i := 0) rfl))) (mvT hZ (hw _ (List.mem_of_getElem? (i := 1) rfl))) (mvT hZ (hw _ (List.mem_of_getElem? (i := 2) rfl))) (mvT hZ (hw _ (List.mem_of_getElem? (i := 3) rfl))) (by decide) (backOf (W := 0) (rm1 l Z a0 hw [] (p1 &&& (63 : Int32)) h0 n0 Z0) hZ (hw _ (List.mem_of_getElem? (i := 3) rfl)) (hw _ (List.mem_of_getElem? (i := 2) rfl)) (by decide) (by decide)) (g := (mkF m 63 #[.val (.int p1), .val (.int p2), .val (.int (0 : Int32)), .val (.int (p1 &&& (63 : Int32))), .val (.int (0 : Int32))] [(.int (p1 &&& (63 : Int32)))])) rfl (by rw [hml]; rfl) (argsL := [(.int (p1 &&& (63 : Int32)))]) (rest := []) (lenOf pd__I_Z rfl) rfl (by show 2 * 0 + _ ≤ _; exact Nat.le_of_eq rfl) (hb hby at_63) (fun _ _ => ⟨rfl, e0, (by decide : 0 + 0 ≤ _), (by decide : 0 + 0 ≤ _)⟩)
            dsimp only [Pt.U, Pt.locs, Pt.cells, Pt.slots] at X6 l6 y6 z6 st6 hQ6
            subst l6 y6 z6
            obtain ⟨rfl, N6q, e6⟩ := hQ6
            have N6 := Fr.app N0 N6q
            refine go (B := T6.setTop (mkF m 66 #[.val (.int p1), .val (.int p2), .val (.int (0 : Int32)), .val (.int (p1 &&& (63 : Int32))), .val (.int (0 : Int32))] [(.int (fWS (p1 &&& (63 : Int32))))])) (fun _ k => st6 _ k) ?_
            refine go (B := T6.setTop (mkF m 68 #[.val (.int p1), .val (.int p2), .val (.int (0 : Int32)), .val (.int (p1 &&& (63 : Int32))), .val (.int (0 : Int32))] [(.int (0 : Int32)), (.int (fWS (p1 &&& (63 : Int32))))])) (fun _ k => XS.iload X6.here hx rfl (hb hby at_66) rfl k) ?_
            by_cases hc68 : (fWS (p1 &&& (63 : Int32))) = (0 : Int32)
            · refine go (B := T6.setTop (mkF m 71 #[.val (.int p1), .val (.int p2), .val (.int (0 : Int32)), .val (.int (p1 &&& (63 : Int32))), .val (.int (0 : Int32))] [])) (fun _ k => XS.icmpNo X6.here hx rfl (hb hby at_68) rfl (teq hc68).2 k) ?_
              refine go (B := T6.setTop (mkF m 72 #[.val (.int p1), .val (.int p2), .val (.int (0 : Int32)), .val (.int (p1 &&& (63 : Int32))), .val (.int (0 : Int32))] [(.int (1 : Int32))])) (fun _ k => XS.iconst X6.here hx rfl (hb hby at_71) k) ?_
              refine go (B := T6.setTop (mkF m 76 #[.val (.int p1), .val (.int p2), .val (.int (0 : Int32)), .val (.int (p1 &&& (63 : Int32))), .val (.int (0 : Int32))] [(.int (1 : Int32))])) (fun _ k => XS.goto X6.here hx rfl (pc0 := 72) (pc' := 76) rfl (hb hby at_72) (by decide) (by decide) k) ?_
              refine goRetN X6 hx (t := .boolean) Bd.returns (by simp) hlk (hb hby at_76) ?_ (by decide) (by decide)
              rw [e6]
              exact ⟨rfl, N6⟩
            · refine go (B := T6.setTop (mkF m 75 #[.val (.int p1), .val (.int p2), .val (.int (0 : Int32)), .val (.int (p1 &&& (63 : Int32))), .val (.int (0 : Int32))] [])) (fun _ k => XS.icmpYes X6.here hx rfl (pc0 := 68) (pc' := 75) rfl (hb hby at_68) rfl (feq hc68).2 (by decide) (by decide) k) ?_
              refine go (B := T6.setTop (mkF m 76 #[.val (.int p1), .val (.int p2), .val (.int (0 : Int32)), .val (.int (p1 &&& (63 : Int32))), .val (.int (0 : Int32))] [(.int (0 : Int32))])) (fun _ k => XS.iconst X6.here hx rfl (hb hby at_75) k) ?_
              refine goRetN X6 hx (t := .boolean) Bd.returns (by simp) hlk (hb hby at_76) ?_ (by decide) (by decide)
              rw [e6]
              exfalso
              have q := fWS_int (p1 &&& (63 : Int32))
              simp only [Int32.lt_iff_toInt_lt, Int64.lt_iff_toInt_lt, ← Int32.toInt_inj, ← Int64.toInt_inj, Int32.reduceToInt, Int64.reduceToInt] at  hc3 hc28 hc34 hc40 hc52 hc68
              omega
        · refine go (B := s₁.setTop (mkF m 43 #[.val (.int p1), .val (.int p2), .val (.int (0 : Int32)), .val (.int (p1 &&& (63 : Int32))), .unset] [])) (fun _ k => XS.icmpNo X0.here hx rfl (hb hby at_40) rfl (feq hc40).1 k) ?_
          refine go (B := s₁.setTop (mkF m 44 #[.val (.int p1), .val (.int p2), .val (.int (0 : Int32)), .val (.int (p1 &&& (63 : Int32))), .unset] [(.int (p1 &&& (63 : Int32)))])) (fun _ k => XS.iloadN X0.here hx rfl (hb hby at_43) rfl k) ?_
          refine go (B := s₁.setTop (mkF m 46 #[.val (.int p1), .val (.int p2), .val (.int (0 : Int32)), .val (.int (p1 &&& (63 : Int32))), .unset] [(.int (12 : Int32)), (.int (p1 &&& (63 : Int32)))])) (fun _ k => XS.bipush X0.here hx rfl (hb hby at_44) k) ?_
          by_cases hc46 : (p1 &&& (63 : Int32)) = (12 : Int32)
          · refine go (B := s₁.setTop (mkF m 49 #[.val (.int p1), .val (.int p2), .val (.int (0 : Int32)), .val (.int (p1 &&& (63 : Int32))), .unset] [])) (fun _ k => XS.icmpNo X0.here hx rfl (hb hby at_46) rfl (teq hc46).2 k) ?_
            refine go (B := s₁.setTop (mkF m 50 #[.val (.int p1), .val (.int p2), .val (.int (0 : Int32)), .val (.int (p1 &&& (63 : Int32))), .unset] [(.int (p1 &&& (63 : Int32)))])) (fun _ k => XS.iloadN X0.here hx rfl (hb hby at_49) rfl k) ?_
            refine go (B := s₁.setTop (mkF m 52 #[.val (.int p1), .val (.int p2), .val (.int (0 : Int32)), .val (.int (p1 &&& (63 : Int32))), .unset] [(.int (32 : Int32)), (.int (p1 &&& (63 : Int32)))])) (fun _ k => XS.bipush X0.here hx rfl (hb hby at_50) k) ?_
            by_cases hc52 : (p1 &&& (63 : Int32)) = (32 : Int32)
            · refine go (B := s₁.setTop (mkF m 55 #[.val (.int p1), .val (.int p2), .val (.int (0 : Int32)), .val (.int (p1 &&& (63 : Int32))), .unset] [])) (fun _ k => XS.icmpNo X0.here hx rfl (hb hby at_52) rfl (teq hc52).2 k) ?_
              refine go (B := s₁.setTop (mkF m 56 #[.val (.int p1), .val (.int p2), .val (.int (0 : Int32)), .val (.int (p1 &&& (63 : Int32))), .unset] [(.int (1 : Int32))])) (fun _ k => XS.iconst X0.here hx rfl (hb hby at_55) k) ?_
              refine go (B := s₁.setTop (mkF m 60 #[.val (.int p1), .val (.int p2), .val (.int (0 : Int32)), .val (.int (p1 &&& (63 : Int32))), .unset] [(.int (1 : Int32))])) (fun _ k => XS.goto X0.here hx rfl (pc0 := 56) (pc' := 60) rfl (hb hby at_56) (by decide) (by decide) k) ?_
              refine go (B := s₁.setTop (mkF m 62 #[.val (.int p1), .val (.int p2), .val (.int (0 : Int32)), .val (.int (p1 &&& (63 : Int32))), .val (.int (1 : Int32))] [])) (fun _ k => XS.istore X0.here hx rfl (hb hby at_60) rfl (l' := #[.val (.int p1), .val (.int p2), .val (.int (0 : Int32)), .val (.int (p1 &&& (63 : Int32))), .val (.int (1 : Int32))]) rfl k) ?_
              refine go (B := s₁.setTop (mkF m 63 #[.val (.int p1), .val (.int p2), .val (.int (0 : Int32)), .val (.int (p1 &&& (63 : Int32))), .val (.int (1 : Int32))] [(.int (p1 &&& (63 : Int32)))])) (fun _ k => XS.iloadN X0.here hx rfl (hb hby at_62) rfl k) ?_
              obtain ⟨_, _, ⟨T7, L7, k7, n7⟩, -, X7, ⟨Lc7, hQ7, l7, y7, z7⟩, st7⟩ := Jvm.LawKit.callS X0 hx (y := (⟨"com/example/libxfrag/libxfrag/canonical/Names", "isWhiteSpace", "(I)Z"⟩ : MethodName)) hown (mvT hZ (hw _ (List.mem_of_getElem? (i := 0) rfl))) (mvT hZ (hw _ (List.mem_of_getElem? (i := 1) rfl))) (mvT hZ (hw _ (List.mem_of_getElem? (i := 2) rfl))) (mvT hZ (hw _ (List.mem_of_getElem? (i := 3) rfl))) (by decide) (backOf (W := 0) (rm1 l Z a0 hw [] (p1 &&& (63 : Int32)) h0 n0 Z0) hZ (hw _ (List.mem_of_getElem? (i := 3) rfl)) (hw _ (List.mem_of_getElem? (i := 2) rfl)) (by decide) (by decide)) (g := (mkF m 63 #[.val (.int p1), .val (.int p2), .val (.int (0 : Int32)), .val (.int (p1 &&& (63 : Int32))), .val (.int (1 : Int32))] [(.int (p1 &&& (63 : Int32)))])) rfl (by rw [hml]; rfl) (argsL := [(.int (p1 &&& (63 : Int32)))]) (rest := []) (lenOf pd__I_Z rfl) rfl (by show 2 * 0 + _ ≤ _; exact Nat.le_of_eq rfl) (hb hby at_63) (fun _ _ => ⟨rfl, e0, (by decide : 0 + 0 ≤ _), (by decide : 0 + 0 ≤ _)⟩)
              dsimp only [Pt.U, Pt.locs, Pt.cells, Pt.slots] at X7 l7 y7 z7 st7 hQ7
              subst l7 y7 z7
              obtain ⟨rfl, N7q, e7⟩ := hQ7
              have N7 := Fr.app N0 N7q
              refine go (B := T7.setTop (mkF m 66 #[.val (.int p1), .val (.int p2), .val (.int (0 : Int32)), .val (.int (p1 &&& (63 : Int32))), .val (.int (1 : Int32))] [(.int (fWS (p1 &&& (63 : Int32))))])) (fun _ k => st7 _ k) ?_
              refine go (B := T7.setTop (mkF m 68 #[.val (.int p1), .val (.int p2), .val (.int (0 : Int32)), .val (.int (p1 &&& (63 : Int32))), .val (.int (1 : Int32))] [(.int (1 : Int32)), (.int (fWS (p1 &&& (63 : Int32))))])) (fun _ k => XS.iload X7.here hx rfl (hb hby at_66) rfl k) ?_
              by_cases hc68 : (fWS (p1 &&& (63 : Int32))) = (1 : Int32)
              · refine go (B := T7.setTop (mkF m 71 #[.val (.int p1), .val (.int p2), .val (.int (0 : Int32)), .val (.int (p1 &&& (63 : Int32))), .val (.int (1 : Int32))] [])) (fun _ k => XS.icmpNo X7.here hx rfl (hb hby at_68) rfl (teq hc68).2 k) ?_
                refine go (B := T7.setTop (mkF m 72 #[.val (.int p1), .val (.int p2), .val (.int (0 : Int32)), .val (.int (p1 &&& (63 : Int32))), .val (.int (1 : Int32))] [(.int (1 : Int32))])) (fun _ k => XS.iconst X7.here hx rfl (hb hby at_71) k) ?_
                refine go (B := T7.setTop (mkF m 76 #[.val (.int p1), .val (.int p2), .val (.int (0 : Int32)), .val (.int (p1 &&& (63 : Int32))), .val (.int (1 : Int32))] [(.int (1 : Int32))])) (fun _ k => XS.goto X7.here hx rfl (pc0 := 72) (pc' := 76) rfl (hb hby at_72) (by decide) (by decide) k) ?_
                refine goRetN X7 hx (t := .boolean) Bd.returns (by simp) hlk (hb hby at_76) ?_ (by decide) (by decide)
                rw [e7]
                exact ⟨rfl, N7⟩
              · refine go (B := T7.setTop (mkF m 75 #[.val (.int p1), .val (.int p2), .val (.int (0 : Int32)), .val (.int (p1 &&& (63 : Int32))), .val (.int (1 : Int32))] [])) (fun _ k => XS.icmpYes X7.here hx rfl (pc0 := 68) (pc' := 75) rfl (hb hby at_68) rfl (feq hc68).2 (by decide) (by decide) k) ?_
                refine go (B := T7.setTop (mkF m 76 #[.val (.int p1), .val (.int p2), .val (.int (0 : Int32)), .val (.int (p1 &&& (63 : Int32))), .val (.int (1 : Int32))] [(.int (0 : Int32))])) (fun _ k => XS.iconst X7.here hx rfl (hb hby at_75) k) ?_
                refine goRetN X7 hx (t := .boolean) Bd.returns (by simp) hlk (hb hby at_76) ?_ (by decide) (by decide)
                rw [e7]
                exfalso
                have q := fWS_int (p1 &&& (63 : Int32))
                simp only [Int32.lt_iff_toInt_lt, Int64.lt_iff_toInt_lt, ← Int32.toInt_inj, ← Int64.toInt_inj, Int32.reduceToInt, Int64.reduceToInt] at  hc3 hc28 hc34 hc40 hc46 hc52 hc68
                omega
            · refine go (B := s₁.setTop (mkF m 59 #[.val (.int p1), .val (.int p2), .val (.int (0 : Int32)), .val (.int (p1 &&& (63 : Int32))), .unset] [])) (fun _ k => XS.icmpYes X0.here hx rfl (pc0 := 52) (pc' := 59) rfl (hb hby at_52) rfl (feq hc52).2 (by decide) (by decide) k) ?_
              refine go (B := s₁.setTop (mkF m 60 #[.val (.int p1), .val (.int p2), .val (.int (0 : Int32)), .val (.int (p1 &&& (63 : Int32))), .unset] [(.int (0 : Int32))])) (fun _ k => XS.iconst X0.here hx rfl (hb hby at_59) k) ?_
              refine go (B := s₁.setTop (mkF m 62 #[.val (.int p1), .val (.int p2), .val (.int (0 : Int32)), .val (.int (p1 &&& (63 : Int32))), .val (.int (0 : Int32))] [])) (fun _ k => XS.istore X0.here hx rfl (hb hby at_60) rfl (l' := #[.val (.int p1), .val (.int p2), .val (.int (0 : Int32)), .val (.int (p1 &&& (63 : Int32))), .val (.int (0 : Int32))]) rfl k) ?_
              refine go (B := s₁.setTop (mkF m 63 #[.val (.int p1), .val (.int p2), .val (.int (0 : Int32)), .val (.int (p1 &&& (63 : Int32))), .val (.int (0 : Int32))] [(.int (p1 &&& (63 : Int32)))])) (fun _ k => XS.iloadN X0.here hx rfl (hb hby at_62) rfl k) ?_
              obtain ⟨_, _, ⟨T8, L8, k8, n8⟩, -, X8, ⟨Lc8, hQ8, l8, y8, z8⟩, st8⟩ := Jvm.LawKit.callS X0 hx (y := (⟨"com/example/libxfrag/libxfrag/canonical/Names", "isWhiteSpace", "(I)Z"⟩ : MethodName)) hown (mvT hZ (hw _ (List.mem_of_getElem? (i := 0) rfl))) (mvT hZ (hw _ (List.mem_of_getElem? (i := 1) rfl))) (mvT hZ (hw _ (List.mem_of_getElem? (i := 2) rfl))) (mvT hZ (hw _ (List.mem_of_getElem? (i := 3) rfl))) (by decide) (backOf (W := 0) (rm1 l Z a0 hw [] (p1 &&& (63 : Int32)) h0 n0 Z0) hZ (hw _ (List.mem_of_getElem? (i := 3) rfl)) (hw _ (List.mem_of_getElem? (i := 2) rfl)) (by decide) (by decide)) (g := (mkF m 63 #[.val (.int p1), .val (.int p2), .val (.int (0 : Int32)), .val (.int (p1 &&& (63 : Int32))), .val (.int (0 : Int32))] [(.int (p1 &&& (63 : Int32)))])) rfl (by rw [hml]; rfl) (argsL := [(.int (p1 &&& (63 : Int32)))]) (rest := []) (lenOf pd__I_Z rfl) rfl (by show 2 * 0 + _ ≤ _; exact Nat.le_of_eq rfl) (hb hby at_63) (fun _ _ => ⟨rfl, e0, (by decide : 0 + 0 ≤ _), (by decide : 0 + 0 ≤ _)⟩)
              dsimp only [Pt.U, Pt.locs, Pt.cells, Pt.slots] at X8 l8 y8 z8 st8 hQ8
              subst l8 y8 z8
              obtain ⟨rfl, N8q, e8⟩ := hQ8
              have N8 := Fr.app N0 N8q
              refine go (B := T8.setTop (mkF m 66 #[.val (.int p1), .val (.int p2), .val (.int (0 : Int32)), .val (.int (p1 &&& (63 : Int32))), .val (.int (0 : Int32))] [(.int (fWS (p1 &&& (63 : Int32))))])) (fun _ k => st8 _ k) ?_
              refine go (B := T8.setTop (mkF m 68 #[.val (.int p1), .val (.int p2), .val (.int (0 : Int32)), .val (.int (p1 &&& (63 : Int32))), .val (.int (0 : Int32))] [(.int (0 : Int32)), (.int (fWS (p1 &&& (63 : Int32))))])) (fun _ k => XS.iload X8.here hx rfl (hb hby at_66) rfl k) ?_
              by_cases hc68 : (fWS (p1 &&& (63 : Int32))) = (0 : Int32)
              · refine go (B := T8.setTop (mkF m 71 #[.val (.int p1), .val (.int p2), .val (.int (0 : Int32)), .val (.int (p1 &&& (63 : Int32))), .val (.int (0 : Int32))] [])) (fun _ k => XS.icmpNo X8.here hx rfl (hb hby at_68) rfl (teq hc68).2 k) ?_
                refine go (B := T8.setTop (mkF m 72 #[.val (.int p1), .val (.int p2), .val (.int (0 : Int32)), .val (.int (p1 &&& (63 : Int32))), .val (.int (0 : Int32))] [(.int (1 : Int32))])) (fun _ k => XS.iconst X8.here hx rfl (hb hby at_71) k) ?_
                refine go (B := T8.setTop (mkF m 76 #[.val (.int p1), .val (.int p2), .val (.int (0 : Int32)), .val (.int (p1 &&& (63 : Int32))), .val (.int (0 : Int32))] [(.int (1 : Int32))])) (fun _ k => XS.goto X8.here hx rfl (pc0 := 72) (pc' := 76) rfl (hb hby at_72) (by decide) (by decide) k) ?_
                refine goRetN X8 hx (t := .boolean) Bd.returns (by simp) hlk (hb hby at_76) ?_ (by decide) (by decide)
                rw [e8]
                exact ⟨rfl, N8⟩
              · refine go (B := T8.setTop (mkF m 75 #[.val (.int p1), .val (.int p2), .val (.int (0 : Int32)), .val (.int (p1 &&& (63 : Int32))), .val (.int (0 : Int32))] [])) (fun _ k => XS.icmpYes X8.here hx rfl (pc0 := 68) (pc' := 75) rfl (hb hby at_68) rfl (feq hc68).2 (by decide) (by decide) k) ?_
                refine go (B := T8.setTop (mkF m 76 #[.val (.int p1), .val (.int p2), .val (.int (0 : Int32)), .val (.int (p1 &&& (63 : Int32))), .val (.int (0 : Int32))] [(.int (0 : Int32))])) (fun _ k => XS.iconst X8.here hx rfl (hb hby at_75) k) ?_
                refine goRetN X8 hx (t := .boolean) Bd.returns (by simp) hlk (hb hby at_76) ?_ (by decide) (by decide)
                rw [e8]
                exfalso
                have q := fWS_int (p1 &&& (63 : Int32))
                simp only [Int32.lt_iff_toInt_lt, Int64.lt_iff_toInt_lt, ← Int32.toInt_inj, ← Int64.toInt_inj, Int32.reduceToInt, Int64.reduceToInt] at  hc3 hc28 hc34 hc40 hc46 hc52 hc68
                omega
          · refine go (B := s₁.setTop (mkF m 55 #[.val (.int p1), .val (.int p2), .val (.int (0 : Int32)), .val (.int (p1 &&& (63 : Int32))), .unset] [])) (fun _ k => XS.icmpYes X0.here hx rfl (pc0 := 46) (pc' := 55) rfl (hb hby at_46) rfl (feq hc46).2 (by decide) (by decide) k) ?_
            refine go (B := s₁.setTop (mkF m 56 #[.val (.int p1), .val (.int p2), .val (.int (0 : Int32)), .val (.int (p1 &&& (63 : Int32))), .unset] [(.int (1 : Int32))])) (fun _ k => XS.iconst X0.here hx rfl (hb hby at_55) k) ?_
            refine go (B := s₁.setTop (mkF m 60 #[.val (.int p1), .val (.int p2), .val (.int (0 : Int32)), .val (.int (p1 &&& (63 : Int32))), .unset] [(.int (1 : Int32))])) (fun _ k => XS.goto X0.here hx rfl (pc0 := 56) (pc' := 60) rfl (hb hby at_56) (by decide) (by decide) k) ?_
            refine go (B := s₁.setTop (mkF m 62 #[.val (.int p1), .val (.int p2), .val (.int (0 : Int32)), .val (.int (p1 &&& (63 : Int32))), .val (.int (1 : Int32))] [])) (fun _ k => XS.istore X0.here hx rfl (hb hby at_60) rfl (l' := #[.val (.int p1), .val (.int p2), .val (.int (0 : Int32)), .val (.int (p1 &&& (63 : Int32))), .val (.int (1 : Int32))]) rfl k) ?_
            refine go (B := s₁.setTop (mkF m 63 #[.val (.int p1), .val (.int p2), .val (.int (0 : Int32)), .val (.int (p1 &&& (63 : Int32))), .val (.int (1 : Int32))] [(.int (p1 &&& (63 : Int32)))])) (fun _ k => XS.iloadN X0.here hx rfl (hb hby at_62) rfl k) ?_
            obtain ⟨_, _, ⟨T9, L9, k9, n9⟩, -, X9, ⟨Lc9, hQ9, l9, y9, z9⟩, st9⟩ := Jvm.LawKit.callS X0 hx (y := (⟨"com/example/libxfrag/libxfrag/canonical/Names", "isWhiteSpace", "(I)Z"⟩ : MethodName)) hown (mvT hZ (hw _ (List.mem_of_getElem? (i := 0) rfl))) (mvT hZ (hw _ (List.mem_of_getElem? (i := 1) rfl))) (mvT hZ (hw _ (List.mem_of_getElem? (i := 2) rfl))) (mvT hZ (hw _ (List.mem_of_getElem? (i := 3) rfl))) (by decide) (backOf (W := 0) (rm1 l Z a0 hw [] (p1 &&& (63 : Int32)) h0 n0 Z0) hZ (hw _ (List.mem_of_getElem? (i := 3) rfl)) (hw _ (List.mem_of_getElem? (i := 2) rfl)) (by decide) (by decide)) (g := (mkF m 63 #[.val (.int p1), .val (.int p2), .val (.int (0 : Int32)), .val (.int (p1 &&& (63 : Int32))), .val (.int (1 : Int32))] [(.int (p1 &&& (63 : Int32)))])) rfl (by rw [hml]; rfl) (argsL := [(.int (p1 &&& (63 : Int32)))]) (rest := []) (lenOf pd__I_Z rfl) rfl (by show 2 * 0 + _ ≤ _; exact Nat.le_of_eq rfl) (hb hby at_63) (fun _ _ => ⟨rfl, e0, (by decide : 0 + 0 ≤ _), (by decide : 0 + 0 ≤ _)⟩)
            dsimp only [Pt.U, Pt.locs, Pt.cells, Pt.slots] at X9 l9 y9 z9 st9 hQ9
            subst l9 y9 z9
            obtain ⟨rfl, N9q, e9⟩ := hQ9
            have N9 := Fr.app N0 N9q
            refine go (B := T9.setTop (mkF m 66 #[.val (.int p1), .val (.int p2), .val (.int (0 : Int32)), .val (.int (p1 &&& (63 : Int32))), .val (.int (1 : Int32))] [(.int (fWS (p1 &&& (63 : Int32))))])) (fun _ k => st9 _ k) ?_
            refine go (B := T9.setTop (mkF m 68 #[.val (.int p1), .val (.int p2), .val (.int (0 : Int32)), .val (.int (p1 &&& (63 : Int32))), .val (.int (1 : Int32))] [(.int (1 : Int32)), (.int (fWS (p1 &&& (63 : Int32))))])) (fun _ k => XS.iload X9.here hx rfl (hb hby at_66) rfl k) ?_
            by_cases hc68 : (fWS (p1 &&& (63 : Int32))) = (1 : Int32)
            · refine go (B := T9.setTop (mkF m 71 #[.val (.int p1), .val (.int p2), .val (.int (0 : Int32)), .val (.int (p1 &&& (63 : Int32))), .val (.int (1 : Int32))] [])) (fun _ k => XS.icmpNo X9.here hx rfl (hb hby at_68) rfl (teq hc68).2 k) ?_
              refine go (B := T9.setTop (mkF m 72 #[.val (.int p1), .val (.int p2), .val (.int (0 : Int32)), .val (.int (p1 &&& (63 : Int32))), .val (.int (1 : Int32))] [(.int (1 : Int32))])) (fun _ k => XS.iconst X9.here hx rfl (hb hby at_71) k) ?_
              refine go (B := T9.setTop (mkF m 76 #[.val (.int p1), .val (.int p2), .val (.int (0 : Int32)), .val (.int (p1 &&& (63 : Int32))), .val (.int (1 : Int32))] [(.int (1 : Int32))])) (fun _ k => XS.goto X9.here hx rfl (pc0 := 72) (pc' := 76) rfl (hb hby at_72) (by decide) (by decide) k) ?_
              refine goRetN X9 hx (t := .boolean) Bd.returns (by simp) hlk (hb hby at_76) ?_ (by decide) (by decide)
              rw [e9]
              exact ⟨rfl, N9⟩
            · refine go (B := T9.setTop (mkF m 75 #[.val (.int p1), .val (.int p2), .val (.int (0 : Int32)), .val (.int (p1 &&& (63 : Int32))), .val (.int (1 : Int32))] [])) (fun _ k => XS.icmpYes X9.here hx rfl (pc0 := 68) (pc' := 75) rfl (hb hby at_68) rfl (feq hc68).2 (by decide) (by decide) k) ?_
              refine go (B := T9.setTop (mkF m 76 #[.val (.int p1), .val (.int p2), .val (.int (0 : Int32)), .val (.int (p1 &&& (63 : Int32))), .val (.int (1 : Int32))] [(.int (0 : Int32))])) (fun _ k => XS.iconst X9.here hx rfl (hb hby at_75) k) ?_
              refine goRetN X9 hx (t := .boolean) Bd.returns (by simp) hlk (hb hby at_76) ?_ (by decide) (by decide)
              rw [e9]
              exfalso
              have q := fWS_int (p1 &&& (63 : Int32))
              simp only [Int32.lt_iff_toInt_lt, Int64.lt_iff_toInt_lt, ← Int32.toInt_inj, ← Int64.toInt_inj, Int32.reduceToInt, Int64.reduceToInt] at  hc3 hc28 hc34 hc40 hc46 hc68
              omega
  · refine go (B := s₁.setTop (mkF m 6 #[.val (.int p1), .val (.int p2), .unset, .unset, .unset] [])) (fun _ k => XS.ifNo X0.here hx rfl (hb hby at_3) rfl ((if0 _ _).trans (feq hc3).1) k) ?_
    refine go (B := s₁.setTop (mkF m 7 #[.val (.int p1), .val (.int p2), .unset, .unset, .unset] [(.int (1 : Int32))])) (fun _ k => XS.iconst X0.here hx rfl (hb hby at_6) k) ?_
    refine go (B := s₁.setTop (mkF m 11 #[.val (.int p1), .val (.int p2), .unset, .unset, .unset] [(.int (1 : Int32))])) (fun _ k => XS.goto X0.here hx rfl (pc0 := 7) (pc' := 11) rfl (hb hby at_7) (by decide) (by decide) k) ?_
    refine go (B := s₁.setTop (mkF m 12 #[.val (.int p1), .val (.int p2), .val (.int (1 : Int32)), .unset, .unset] [])) (fun _ k => XS.istoreN X0.here hx rfl (hb hby at_11) rfl (l' := #[.val (.int p1), .val (.int p2), .val (.int (1 : Int32)), .unset, .unset]) rfl k) ?_
    refine go (B := s₁.setTop (mkF m 13 #[.val (.int p1), .val (.int p2), .val (.int (1 : Int32)), .unset, .unset] [(.int (1 : Int32))])) (fun _ k => XS.iloadN X0.here hx rfl (hb hby at_12) rfl k) ?_
    have hc13 : ¬ ((1 : Int32) = (0 : Int32)) := by decide
    refine go (B := s₁.setTop (mkF m 16 #[.val (.int p1), .val (.int p2), .val (.int (1 : Int32)), .unset, .unset] [])) (fun _ k => XS.ifNo X0.here hx rfl (hb hby at_13) rfl ((if0 _ _).trans (feq hc13).1) k) ?_
    refine go (B := s₁.setTop (mkF m 17 #[.val (.int p1), .val (.int p2), .val (.int (1 : Int32)), .unset, .unset] [(.int p1)])) (fun _ k => XS.iloadN X0.here hx rfl (hb hby at_16) rfl k) ?_
    refine go (B := s₁.setTop (mkF m 24 #[.val (.int p1), .val (.int p2), .val (.int (1 : Int32)), .unset, .unset] [(.int p1)])) (fun _ k => XS.goto X0.here hx rfl (pc0 := 17) (pc' := 24) rfl (hb hby at_17) (by decide) (by decide) k) ?_
    refine go (B := s₁.setTop (mkF m 25 #[.val (.int p1), .val (.int p2), .val (.int (1 : Int32)), .val (.int p1), .unset] [])) (fun _ k => XS.istoreN X0.here hx rfl (hb hby at_24) rfl (l' := #[.val (.int p1), .val (.int p2), .val (.int (1 : Int32)), .val (.int p1), .unset]) rfl k) ?_
    refine go (B := s₁.setTop (mkF m 26 #[.val (.int p1), .val (.int p2), .val (.int (1 : Int32)), .val (.int p1), .unset] [(.int p1)])) (fun _ k => XS.iloadN X0.here hx rfl (hb hby at_25) rfl k) ?_
    refine go (B := s₁.setTop (mkF m 28 #[.val (.int p1), .val (.int p2), .val (.int (1 : Int32)), .val (.int p1), .unset] [(.int (9 : Int32)), (.int p1)])) (fun _ k => XS.bipush X0.here hx rfl (hb hby at_26) k) ?_
    by_cases hc28 : p1 < (9 : Int32)
    · refine go (B := s₁.setTop (mkF m 49 #[.val (.int p1), .val (.int p2), .val (.int (1 : Int32)), .val (.int p1), .unset] [])) (fun _ k => XS.icmpYes X0.here hx rfl (pc0 := 28) (pc' := 49) rfl (hb hby at_28) rfl (tlt hc28).1 (by decide) (by decide) k) ?_
      refine go (B := s₁.setTop (mkF m 50 #[.val (.int p1), .val (.int p2), .val (.int (1 : Int32)), .val (.int p1), .unset] [(.int p1)])) (fun _ k => XS.iloadN X0.here hx rfl (hb hby at_49) rfl k) ?_
      refine go (B := s₁.setTop (mkF m 52 #[.val (.int p1), .val (.int p2), .val (.int (1 : Int32)), .val (.int p1), .unset] [(.int (32 : Int32)), (.int p1)])) (fun _ k => XS.bipush X0.here hx rfl (hb hby at_50) k) ?_
      by_cases hc52 : p1 = (32 : Int32)
      · refine go (B := s₁.setTop (mkF m 55 #[.val (.int p1), .val (.int p2), .val (.int (1 : Int32)), .val (.int p1), .unset] [])) (fun _ k => XS.icmpNo X0.here hx rfl (hb hby at_52) rfl (teq hc52).2 k) ?_
        refine go (B := s₁.setTop (mkF m 56 #[.val (.int p1), .val (.int p2), .val (.int (1 : Int32)), .val (.int p1), .unset] [(.int (1 : Int32))])) (fun _ k => XS.iconst X0.here hx rfl (hb hby at_55) k) ?_
        refine go (B := s₁.setTop (mkF m 60 #[.val (.int p1), .val (.int p2), .val (.int (1 : Int32)), .val (.int p1), .unset] [(.int (1 : Int32))])) (fun _ k => XS.goto X0.here hx rfl (pc0 := 56) (pc' := 60) rfl (hb hby at_56) (by decide) (by decide) k) ?_
        refine go (B := s₁.setTop (mkF m 62 #[.val (.int p1), .val (.int p2), .val (.int (1 : Int32)), .val (.int p1), .val (.int (1 : Int32))] [])) (fun _ k => XS.istore X0.here hx rfl (hb hby at_60) rfl (l' := #[.val (.int p1), .val (.int p2), .val (.int (1 : Int32)), .val (.int p1), .val (.int (1 : Int32))]) rfl k) ?_
        refine go (B := s₁.setTop (mkF m 63 #[.val (.int p1), .val (.int p2), .val (.int (1 : Int32)), .val (.int p1), .val (.int (1 : Int32))] [(.int p1)])) (fun _ k => XS.iloadN X0.here hx rfl (hb hby at_62) rfl k) ?_
        obtain ⟨_, _, ⟨T10, L10, k10, n10⟩, -, X10, ⟨Lc10, hQ10, l10, y10, z10⟩, st10⟩ := Jvm.LawKit.callS X0 hx (y := (⟨"com/example/libxfrag/libxfrag/canonical/Names", "isWhiteSpace", "(I)Z"⟩ : MethodName)) hown (mvT hZ (hw _ (List.mem_of_getElem? (i := 0) rfl))) (mvT hZ (hw _ (List.mem_of_getElem? (i := 1) rfl))) (mvT hZ (hw _ (List.mem_of_getElem? (i := 2) rfl))) (mvT hZ (hw _ (List.mem_of_getElem? (i := 3) rfl))) (by decide) (backOf (W := 0) (rm1 l Z a0 hw [] p1 h0 n0 Z0) hZ (hw _ (List.mem_of_getElem? (i := 3) rfl)) (hw _ (List.mem_of_getElem? (i := 2) rfl)) (by decide) (by decide)) (g := (mkF m 63 #[.val (.int p1), .val (.int p2), .val (.int (1 : Int32)), .val (.int p1), .val (.int (1 : Int32))] [(.int p1)])) rfl (by rw [hml]; rfl) (argsL := [(.int p1)]) (rest := []) (lenOf pd__I_Z rfl) rfl (by show 2 * 0 + _ ≤ _; exact Nat.le_of_eq rfl) (hb hby at_63) (fun _ _ => ⟨rfl, e0, (by decide : 0 + 0 ≤ _), (by decide : 0 + 0 ≤ _)⟩)
        dsimp only [Pt.U, Pt.locs, Pt.cells, Pt.slots] at X10 l10 y10 z10 st10 hQ10
        subst l10 y10 z10
        obtain ⟨rfl, N10q, e10⟩ := hQ10
        have N10 := Fr.app N0 N10q
        refine go (B := T10.setTop (mkF m 66 #[.val (.int p1), .val (.int p2), .val (.int (1 : Int32)), .val (.int p1), .val (.int (1 : Int32))] [(.int (fWS p1))])) (fun _ k => st10 _ k) ?_
        refine go (B := T10.setTop (mkF m 68 #[.val (.int p1), .val (.int p2), .val (.int (1 : Int32)), .val (.int p1), .val (.int (1 : Int32))] [(.int (1 : Int32)), (.int (fWS p1))])) (fun _ k => XS.iload X10.here hx rfl (hb hby at_66) rfl k) ?_
        by_cases hc68 : (fWS p1) = (1 : Int32)
        · refine go (B := T10.setTop (mkF m 71 #[.val (.int p1), .val (.int p2), .val (.int (1 : Int32)), .val (.int p1), .val (.int (1 : Int32))] [])) (fun _ k => XS.icmpNo X10.here hx rfl (hb hby at_68) rfl (teq hc68).2 k) ?_
          refine go (B := T10.setTop (mkF m 72 #[.val (.int p1), .val (.int p2), .val (.int (1 : Int32)), .val (.int p1), .val (.int (1 : Int32))] [(.int (1 : Int32))])) (fun _ k => XS.iconst X10.here hx rfl (hb hby at_71) k) ?_
          refine go (B := T10.setTop (mkF m 76 #[.val (.int p1), .val (.int p2), .val (.int (1 : Int32)), .val (.int p1), .val (.int (1 : Int32))] [(.int (1 : Int32))])) (fun _ k => XS.goto X10.here hx rfl (pc0 := 72) (pc' := 76) rfl (hb hby at_72) (by decide) (by decide) k) ?_
          refine goRetN X10 hx (t := .boolean) Bd.returns (by simp) hlk (hb hby at_76) ?_ (by decide) (by decide)
          rw [e10]
          exact ⟨rfl, N10⟩
        · refine go (B := T10.setTop (mkF m 75 #[.val (.int p1), .val (.int p2), .val (.int (1 : Int32)), .val (.int p1), .val (.int (1 : Int32))] [])) (fun _ k => XS.icmpYes X10.here hx rfl (pc0 := 68) (pc' := 75) rfl (hb hby at_68) rfl (feq hc68).2 (by decide) (by decide) k) ?_
          refine go (B := T10.setTop (mkF m 76 #[.val (.int p1), .val (.int p2), .val (.int (1 : Int32)), .val (.int p1), .val (.int (1 : Int32))] [(.int (0 : Int32))])) (fun _ k => XS.iconst X10.here hx rfl (hb hby at_75) k) ?_
          refine goRetN X10 hx (t := .boolean) Bd.returns (by simp) hlk (hb hby at_76) ?_ (by decide) (by decide)
          rw [e10]
          exfalso
          have q := fWS_int p1
          simp only [Int32.lt_iff_toInt_lt, Int64.lt_iff_toInt_lt, ← Int32.toInt_inj, ← Int64.toInt_inj, Int32.reduceToInt, Int64.reduceToInt] at  hc3 hc28 hc52 hc68
          omega
      · refine go (B := s₁.setTop (mkF m 59 #[.val (.int p1), .val (.int p2), .val (.int (1 : Int32)), .val (.int p1), .unset] [])) (fun _ k => XS.icmpYes X0.here hx rfl (pc0 := 52) (pc' := 59) rfl (hb hby at_52) rfl (feq hc52).2 (by decide) (by decide) k) ?_
        refine go (B := s₁.setTop (mkF m 60 #[.val (.int p1), .val (.int p2), .val (.int (1 : Int32)), .val (.int p1), .unset] [(.int (0 : Int32))])) (fun _ k => XS.iconst X0.here hx rfl (hb hby at_59) k) ?_
        refine go (B := s₁.setTop (mkF m 62 #[.val (.int p1), .val (.int p2), .val (.int (1 : Int32)), .val (.int p1), .val (.int (0 : Int32))] [])) (fun _ k => XS.istore X0.here hx rfl (hb hby at_60) rfl (l' := #[.val (.int p1), .val (.int p2), .val (.int (1 : Int32)), .val (.int p1), .val (.int (0 : Int32))]) rfl k) ?_
        refine go (B := s₁.setTop (mkF m 63 #[.val (.int p1), .val (.int p2), .val (.int (1 : Int32)), .val (.int p1), .val (.int (0 : Int32))] [(.int p1)])) (fun _ k => XS.iloadN X0.here hx rfl (hb hby at_62) rfl k) ?_
        obtain ⟨_, _, ⟨T11, L11, k11, n11⟩, -, X11, ⟨Lc11, hQ11, l11, y11, z11⟩, st11⟩ := Jvm.LawKit.callS X0 hx (y := (⟨"com/example/libxfrag/libxfrag/canonical/Names", "isWhiteSpace", "(I)Z"⟩ : MethodName)) hown (mvT hZ (hw _ (List.mem_of_getElem? (i := 0) rfl))) (mvT hZ (hw _ (List.mem_of_getElem? (i := 1) rfl))) (mvT hZ (hw _ (List.mem_of_getElem? (i := 2) rfl))) (mvT hZ (hw _ (List.mem_of_getElem? (i := 3) rfl))) (by decide) (backOf (W := 0) (rm1 l Z a0 hw [] p1 h0 n0 Z0) hZ (hw _ (List.mem_of_getElem? (i := 3) rfl)) (hw _ (List.mem_of_getElem? (i := 2) rfl)) (by decide) (by decide)) (g := (mkF m 63 #[.val (.int p1), .val (.int p2), .val (.int (1 : Int32)), .val (.int p1), .val (.int (0 : Int32))] [(.int p1)])) rfl (by rw [hml]; rfl) (argsL := [(.int p1)]) (rest := []) (lenOf pd__I_Z rfl) rfl (by show 2 * 0 + _ ≤ _; exact Nat.le_of_eq rfl) (hb hby at_63) (fun _ _ => ⟨rfl, e0, (by decide : 0 + 0 ≤ _), (by decide : 0 + 0 ≤ _)⟩)
        dsimp only [Pt.U, Pt.locs, Pt.cells, Pt.slots] at X11 l11 y11 z11 st11 hQ11
        subst l11 y11 z11
        obtain ⟨rfl, N11q, e11⟩ := hQ11
        have N11 := Fr.app N0 N11q
        refine go (B := T11.setTop (mkF m 66 #[.val (.int p1), .val (.int p2), .val (.int (1 : Int32)), .val (.int p1), .val (.int (0 : Int32))] [(.int (fWS p1))])) (fun _ k => st11 _ k) ?_
        refine go (B := T11.setTop (mkF m 68 #[.val (.int p1), .val (.int p2), .val (.int (1 : Int32)), .val (.int p1), .val (.int (0 : Int32))] [(.int (0 : Int32)), (.int (fWS p1))])) (fun _ k => XS.iload X11.here hx rfl (hb hby at_66) rfl k) ?_
        by_cases hc68 : (fWS p1) = (0 : Int32)
        · refine go (B := T11.setTop (mkF m 71 #[.val (.int p1), .val (.int p2), .val (.int (1 : Int32)), .val (.int p1), .val (.int (0 : Int32))] [])) (fun _ k => XS.icmpNo X11.here hx rfl (hb hby at_68) rfl (teq hc68).2 k) ?_
          refine go (B := T11.setTop (mkF m 72 #[.val (.int p1), .val (.int p2), .val (.int (1 : Int32)), .val (.int p1), .val (.int (0 : Int32))] [(.int (1 : Int32))])) (fun _ k => XS.iconst X11.here hx rfl (hb hby at_71) k) ?_
          refine go (B := T11.setTop (mkF m 76 #[.val (.int p1), .val (.int p2), .val (.int (1 : Int32)), .val (.int p1), .val (.int (0 : Int32))] [(.int (1 : Int32))])) (fun _ k => XS.goto X11.here hx rfl (pc0 := 72) (pc' := 76) rfl (hb hby at_72) (by decide) (by decide) k) ?_
          refine goRetN X11 hx (t := .boolean) Bd.returns (by simp) hlk (hb hby at_76) ?_ (by decide) (by decide)
          rw [e11]
          exact ⟨rfl, N11⟩
        · refine go (B := T11.setTop (mkF m 75 #[.val (.int p1), .val (.int p2), .val (.int (1 : Int32)), .val (.int p1), .val (.int (0 : Int32))] [])) (fun _ k => XS.icmpYes X11.here hx rfl (pc0 := 68) (pc' := 75) rfl (hb hby at_68) rfl (feq hc68).2 (by decide) (by decide) k) ?_
          refine go (B := T11.setTop (mkF m 76 #[.val (.int p1), .val (.int p2), .val (.int (1 : Int32)), .val (.int p1), .val (.int (0 : Int32))] [(.int (0 : Int32))])) (fun _ k => XS.iconst X11.here hx rfl (hb hby at_75) k) ?_
          refine goRetN X11 hx (t := .boolean) Bd.returns (by simp) hlk (hb hby at_76) ?_ (by decide) (by decide)
          rw [e11]
          exfalso
          have q := fWS_int p1
          simp only [Int32.lt_iff_toInt_lt, Int64.lt_iff_toInt_lt, ← Int32.toInt_inj, ← Int64.toInt_inj, Int32.reduceToInt, Int64.reduceToInt] at  hc3 hc28 hc52 hc68
          omega
    · refine go (B := s₁.setTop (mkF m 31 #[.val (.int p1), .val (.int p2), .val (.int (1 : Int32)), .val (.int p1), .unset] [])) (fun _ k => XS.icmpNo X0.here hx rfl (hb hby at_28) rfl (flt hc28).1 k) ?_
      refine go (B := s₁.setTop (mkF m 32 #[.val (.int p1), .val (.int p2), .val (.int (1 : Int32)), .val (.int p1), .unset] [(.int p1)])) (fun _ k => XS.iloadN X0.here hx rfl (hb hby at_31) rfl k) ?_
      refine go (B := s₁.setTop (mkF m 34 #[.val (.int p1), .val (.int p2), .val (.int (1 : Int32)), .val (.int p1), .unset] [(.int (13 : Int32)), (.int p1)])) (fun _ k => XS.bipush X0.here hx rfl (hb hby at_32) k) ?_
      by_cases hc34 : (13 : Int32) < p1
      · refine go (B := s₁.setTop (mkF m 49 #[.val (.int p1), .val (.int p2), .val (.int (1 : Int32)), .val (.int p1), .unset] [])) (fun _ k => XS.icmpYes X0.here hx rfl (pc0 := 34) (pc' := 49) rfl (hb hby at_34) rfl (tlt hc34).2.2.1 (by decide) (by decide) k) ?_
        refine go (B := s₁.setTop (mkF m 50 #[.val (.int p1), .val (.int p2), .val (.int (1 : Int32)), .val (.int p1), .unset] [(.int p1)])) (fun _ k => XS.iloadN X0.here hx rfl (hb hby at_49) rfl k) ?_
        refine go (B := s₁.setTop (mkF m 52 #[.val (.int p1), .val (.int p2), .val (.int (1 : Int32)), .val (.int p1), .unset] [(.int (32 : Int32)), (.int p1)])) (fun _ k => XS.bipush X0.here hx rfl (hb hby at_50) k) ?_
        by_cases hc52 : p1 = (32 : Int32)
        · refine go (B := s₁.setTop (mkF m 55 #[.val (.int p1), .val (.int p2), .val (.int (1 : Int32)), .val (.int p1), .unset] [])) (fun _ k => XS.icmpNo X0.here hx rfl (hb hby at_52) rfl (teq hc52).2 k) ?_
          refine go (B := s₁.setTop (mkF m 56 #[.val (.int p1), .val (.int p2), .val (.int (1 : Int32)), .val (.int p1), .unset] [(.int (1 : Int32))])) (fun _ k => XS.iconst X0.here hx rfl (hb hby at_55) k) ?_
          refine go (B := s₁.setTop (mkF m 60 #[.val (.int p1), .val (.int p2), .val (.int (1 : Int32)), .val (.int p1), .unset] [(.int (1 : Int32))])) (fun _ k => XS.goto X0.here hx rfl (pc0 := 56) (pc' := 60) rfl (hb hby at_56) (by decide) (by decide) k) ?_
          refine go (B := s₁.setTop (mkF m 62 #[.val (.int p1), .val (.int p2), .val (.int (1 : Int32)), .val (.int p1), .val (.int (1 : Int32))] [])) (fun _ k => XS.istore X0.here hx rfl (hb hby at_60) rfl (l' := #[.val (.int p1), .val (.int p2), .val (.int (1 : Int32)), .val (.int p1), .val (.int (1 : Int32))]) rfl k) ?_
          refine go (B := s₁.setTop (mkF m 63 #[.val (.int p1), .val (.int p2), .val (.int (1 : Int32)), .val (.int p1), .val (.int (1 : Int32))] [(.int p1)])) (fun _ k => XS.iloadN X0.here hx rfl (hb hby at_62) rfl k) ?_
          obtain ⟨_, _, ⟨T12, L12, k12, n12⟩, -, X12, ⟨Lc12, hQ12, l12, y12, z12⟩, st12⟩ := Jvm.LawKit.callS X0 hx (y := (⟨"com/example/libxfrag/libxfrag/canonical/Names", "isWhiteSpace", "(I)Z"⟩ : MethodName)) hown (mvT hZ (hw _ (List.mem_of_getElem? (i := 0) rfl))) (mvT hZ (hw _ (List.mem_of_getElem? (i := 1) rfl))) (mvT hZ (hw _ (List.mem_of_getElem? (i := 2) rfl))) (mvT hZ (hw _ (List.mem_of_getElem? (i := 3) rfl))) (by decide) (backOf (W := 0) (rm1 l Z a0 hw [] p1 h0 n0 Z0) hZ (hw _ (List.mem_of_getElem? (i := 3) rfl)) (hw _ (List.mem_of_getElem? (i := 2) rfl)) (by decide) (by decide)) (g := (mkF m 63 #[.val (.int p1), .val (.int p2), .val (.int (1 : Int32)), .val (.int p1), .val (.int (1 : Int32))] [(.int p1)])) rfl (by rw [hml]; rfl) (argsL := [(.int p1)]) (rest := []) (lenOf pd__I_Z rfl) rfl (by show 2 * 0 + _ ≤ _; exact Nat.le_of_eq rfl) (hb hby at_63) (fun _ _ => ⟨rfl, e0, (by decide : 0 + 0 ≤ _), (by decide : 0 + 0 ≤ _)⟩)
          dsimp only [Pt.U, Pt.locs, Pt.cells, Pt.slots] at X12 l12 y12 z12 st12 hQ12
          subst l12 y12 z12
          obtain ⟨rfl, N12q, e12⟩ := hQ12
          have N12 := Fr.app N0 N12q
          refine go (B := T12.setTop (mkF m 66 #[.val (.int p1), .val (.int p2), .val (.int (1 : Int32)), .val (.int p1), .val (.int (1 : Int32))] [(.int (fWS p1))])) (fun _ k => st12 _ k) ?_
          refine go (B := T12.setTop (mkF m 68 #[.val (.int p1), .val (.int p2), .val (.int (1 : Int32)), .val (.int p1), .val (.int (1 : Int32))] [(.int (1 : Int32)), (.int (fWS p1))])) (fun _ k => XS.iload X12.here hx rfl (hb hby at_66) rfl k) ?_
          by_cases hc68 : (fWS p1) = (1 : Int32)
          · refine go (B := T12.setTop (mkF m 71 #[.val (.int p1), .val (.int p2), .val (.int (1 : Int32)), .val (.int p1), .val (.int (1 : Int32))] [])) (fun _ k => XS.icmpNo X12.here hx rfl (hb hby at_68) rfl (teq hc68).2 k) ?_
            refine go (B := T12.setTop (mkF m 72 #[.val (.int p1), .val (.int p2), .val (.int (1 : Int32)), .val (.int p1), .val (.int (1 : Int32))] [(.int (1 : Int32))])) (fun _ k => XS.iconst X12.here hx rfl (hb hby at_71) k) ?_
            refine go (B := T12.setTop (mkF m 76 #[.val (.int p1), .val (.int p2), .val (.int (1 : Int32)), .val (.int p1), .val (.int (1 : Int32))] [(.int (1 : Int32))])) (fun _ k => XS.goto X12.here hx rfl (pc0 := 72) (pc' := 76) rfl (hb hby at_72) (by decide) (by decide) k) ?_
            refine goRetN X12 hx (t := .boolean) Bd.returns (by simp) hlk (hb hby at_76) ?_ (by decide) (by decide)
            rw [e12]
            exact ⟨rfl, N12⟩
          · refine go (B := T12.setTop (mkF m 75 #[.val (.int p1), .val (.int p2), .val (.int (1 : Int32)), .val (.int p1), .val (.int (1 : Int32))] [])) (fun _ k => XS.icmpYes X12.here hx rfl (pc0 := 68) (pc' := 75) rfl (hb hby at_68) rfl (feq hc68).2 (by decide) (by decide) k) ?_
            refine go (B := T12.setTop (mkF m 76 #[.val (.int p1), .val (.int p2), .val (.int (1 : Int32)), .val (.int p1), .val (.int (1 : Int32))] [(.int (0 : Int32))])) (fun _ k => XS.iconst X12.here hx rfl (hb hby at_75) k) ?_
            refine goRetN X12 hx (t := .boolean) Bd.returns (by simp) hlk (hb hby at_76) ?_ (by decide) (by decide)
            rw [e12]
            exfalso
            have q := fWS_int p1
            simp only [Int32.lt_iff_toInt_lt, Int64.lt_iff_toInt_lt, ← Int32.toInt_inj, ← Int64.toInt_inj, Int32.reduceToInt, Int64.reduceToInt] at  hc3 hc28 hc34 hc52 hc68
            omega
        · refine go (B := s₁.setTop (mkF m 59 #[.val (.int p1), .val (.int p2), .val (.int (1 : Int32)), .val (.int p1), .unset] [])) (fun _ k => XS.icmpYes X0.here hx rfl (pc0 := 52) (pc' := 59) rfl (hb hby at_52) rfl (feq hc52).2 (by decide) (by decide) k) ?_
          refine go (B := s₁.setTop (mkF m 60 #[.val (.int p1), .val (.int p2), .val (.int (1 : Int32)), .val (.int p1), .unset] [(.int (0 : Int32))])) (fun _ k => XS.iconst X0.here hx rfl (hb hby at_59) k) ?_
          refine go (B := s₁.setTop (mkF m 62 #[.val (.int p1), .val (.int p2), .val (.int (1 : Int32)), .val (.int p1), .val (.int (0 : Int32))] [])) (fun _ k => XS.istore X0.here hx rfl (hb hby at_60) rfl (l' := #[.val (.int p1), .val (.int p2), .val (.int (1 : Int32)), .val (.int p1), .val (.int (0 : Int32))]) rfl k) ?_
          refine go (B := s₁.setTop (mkF m 63 #[.val (.int p1), .val (.int p2), .val (.int (1 : Int32)), .val (.int p1), .val (.int (0 : Int32))] [(.int p1)])) (fun _ k => XS.iloadN X0.here hx rfl (hb hby at_62) rfl k) ?_
          obtain ⟨_, _, ⟨T13, L13, k13, n13⟩, -, X13, ⟨Lc13, hQ13, l13, y13, z13⟩, st13⟩ := Jvm.LawKit.callS X0 hx (y := (⟨"com/example/libxfrag/libxfrag/canonical/Names", "isWhiteSpace", "(I)Z"⟩ : MethodName)) hown (mvT hZ (hw _ (List.mem_of_getElem? (i := 0) rfl))) (mvT hZ (hw _ (List.mem_of_getElem? (i := 1) rfl))) (mvT hZ (hw _ (List.mem_of_getElem? (i := 2) rfl))) (mvT hZ (hw _ (List.mem_of_getElem? (i := 3) rfl))) (by decide) (backOf (W := 0) (rm1 l Z a0 hw [] p1 h0 n0 Z0) hZ (hw _ (List.mem_of_getElem? (i := 3) rfl)) (hw _ (List.mem_of_getElem? (i := 2) rfl)) (by decide) (by decide)) (g := (mkF m 63 #[.val (.int p1), .val (.int p2), .val (.int (1 : Int32)), .val (.int p1), .val (.int (0 : Int32))] [(.int p1)])) rfl (by rw [hml]; rfl) (argsL := [(.int p1)]) (rest := []) (lenOf pd__I_Z rfl) rfl (by show 2 * 0 + _ ≤ _; exact Nat.le_of_eq rfl) (hb hby at_63) (fun _ _ => ⟨rfl, e0, (by decide : 0 + 0 ≤ _), (by decide : 0 + 0 ≤ _)⟩)
          dsimp only [Pt.U, Pt.locs, Pt.cells, Pt.slots] at X13 l13 y13 z13 st13 hQ13
          subst l13 y13 z13
          obtain ⟨rfl, N13q, e13⟩ := hQ13
          have N13 := Fr.app N0 N13q
          refine go (B := T13.setTop (mkF m 66 #[.val (.int p1), .val (.int p2), .val (.int (1 : Int32)), .val (.int p1), .val (.int (0 : Int32))] [(.int (fWS p1))])) (fun _ k => st13 _ k) ?_
          refine go (B := T13.setTop (mkF m 68 #[.val (.int p1), .val (.int p2), .val (.int (1 : Int32)), .val (.int p1), .val (.int (0 : Int32))] [(.int (0 : Int32)), (.int (fWS p1))])) (fun _ k => XS.iload X13.here hx rfl (hb hby at_66) rfl k) ?_
          by_cases hc68 : (fWS p1) = (0 : Int32)
          · refine go (B := T13.setTop (mkF m 71 #[.val (.int p1), .val (.int p2), .val (.int (1 : Int32)), .val (.int p1), .val (.int (0 : Int32))] [])) (fun _ k => XS.icmpNo X13.here hx rfl (hb hby at_68) rfl (teq hc68).2 k) ?_
            refine go (B := T13.setTop (mkF m 72 #[.val (.int p1), .val (.int p2), .val (.int (1 : Int32)), .val (.int p1), .val (.int (0 : Int32))] [(.int (1 : Int32))])) (fun _ k => XS.iconst X13.here hx rfl (hb hby at_71) k) ?_
            refine go (B := T13.setTop (mkF m 76 #[.val (.int p1), .val (.int p2), .val (.int (1 : Int32)), .val (.int p1), .val (.int (0 : Int32))] [(.int (1 : Int32))])) (fun _ k => XS.goto X13.here hx rfl (pc0 := 72) (pc' := 76) rfl (hb hby at_72) (by decide) (by decide) k) ?_
            refine goRetN X13 hx (t := .boolean) Bd.returns (by simp) hlk (hb hby at_76) ?_ (by decide) (by decide)
            rw [e13]
            exact ⟨rfl, N13⟩
          · refine go (B := T13.setTop (mkF m 75 #[.val (.int p1), .val (.int p2), .val (.int (1 : Int32)), .val (.int p1), .val (.int (0 : Int32))] [])) (fun _ k => XS.icmpYes X13.here hx rfl (pc0 := 68) (pc' := 75) rfl (hb hby at_68) rfl (feq hc68).2 (by decide) (by decide) k) ?_
            refine go (B := T13.setTop (mkF m 76 #[.val (.int p1), .val (.int p2), .val (.int (1 : Int32)), .val (.int p1), .val (.int (0 : Int32))] [(.int (0 : Int32))])) (fun _ k => XS.iconst X13.here hx rfl (hb hby at_75) k) ?_
            refine goRetN X13 hx (t := .boolean) Bd.returns (by simp) hlk (hb hby at_76) ?_ (by decide) (by decide)
            rw [e13]
            exfalso
            have q := fWS_int p1
            simp only [Int32.lt_iff_toInt_lt, Int64.lt_iff_toInt_lt, ← Int32.toInt_inj, ← Int64.toInt_inj, Int32.reduceToInt, Int64.reduceToInt] at  hc3 hc28 hc34 hc52 hc68
            omega
      · refine go (B := s₁.setTop (mkF m 37 #[.val (.int p1), .val (.int p2), .val (.int (1 : Int32)), .val (.int p1), .unset] [])) (fun _ k => XS.icmpNo X0.here hx rfl (hb hby at_34) rfl (flt hc34).2.2.1 k) ?_
        refine go (B := s₁.setTop (mkF m 38 #[.val (.int p1), .val (.int p2), .val (.int (1 : Int32)), .val (.int p1), .unset] [(.int p1)])) (fun _ k => XS.iloadN X0.here hx rfl (hb hby at_37) rfl k) ?_
        refine go (B := s₁.setTop (mkF m 40 #[.val (.int p1), .val (.int p2), .val (.int (1 : Int32)), .val (.int p1), .unset] [(.int (11 : Int32)), (.int p1)])) (fun _ k => XS.bipush X0.here hx rfl (hb hby at_38) k) ?_
        by_cases hc40 : p1 = (11 : Int32)
        · refine go (B := s₁.setTop (mkF m 49 #[.val (.int p1), .val (.int p2), .val (.int (1 : Int32)), .val (.int p1), .unset] [])) (fun _ k => XS.icmpYes X0.here hx rfl (pc0 := 40) (pc' := 49) rfl (hb hby at_40) rfl (teq hc40).1 (by decide) (by decide) k) ?_
          refine go (B := s₁.setTop (mkF m 50 #[.val (.int p1), .val (.int p2), .val (.int (1 : Int32)), .val (.int p1), .unset] [(.int p1)])) (fun _ k => XS.iloadN X0.here hx rfl (hb hby at_49) rfl k) ?_
          refine go (B := s₁.setTop (mkF m 52 #[.val (.int p1), .val (.int p2), .val (.int (1 : Int32)), .val (.int p1), .unset] [(.int (32 : Int32)), (.int p1)])) (fun _ k => XS.bipush X0.here hx rfl (hb hby at_50) k) ?_
          by_cases hc52 : p1 = (32 : Int32)
          · refine go (B := s₁.setTop (mkF m 55 #[.val (.int p1), .val (.int p2), .val (.int (1 : Int32)), .val (.int p1), .unset] [])) (fun _ k => XS.icmpNo X0.here hx rfl (hb hby at_52) rfl (teq hc52).2 k) ?_
            refine go (B := s₁.setTop (mkF m 56 #[.val (.int p1), .val (.int p2), .val (.int (1 : Int32)), .val (.int p1), .unset] [(.int (1 : Int32))])) (fun _ k => XS.iconst X0.here hx rfl (hb hby at_55) k) ?_
            refine go (B := s₁.setTop (mkF m 60 #[.val (.int p1), .val (.int p2), .val (.int (1 : Int32)), .val (.int p1), .unset] [(.int (1 : Int32))])) (fun _ k => XS.goto X0.here hx rfl (pc0 := 56) (pc' := 60) rfl (hb hby at_56) (by decide) (by decide) k) ?_
            refine go (B := s₁.setTop (mkF m 62 #[.val (.int p1), .val (.int p2), .val (.int (1 : Int32)), .val (.int p1), .val (.int (1 : Int32))] [])) (fun _ k => XS.istore X0.here hx rfl (hb hby at_60) rfl (l' := #[.val (.int p1), .val (.int p2), .val (.int (1 : Int32)), .val (.int p1), .val (.int (1 : Int32))]) rfl k) ?_
            refine go (B := s₁.setTop (mkF m 63 #[.val (.int p1), .val (.int p2), .val (.int (1 : Int32)), .val (.int p1), .val (.int (1 : Int32))] [(.int p1)])) (fun _ k => XS.iloadN X0.here hx rfl (hb hby at_62) rfl k) ?_
            obtain ⟨_, _, ⟨T14, L14, k14, n14⟩, -, X14, ⟨Lc14, hQ14, l14, y14, z14⟩, st14⟩ := Jvm.LawKit.callS X0 hx (y := (⟨"com/example/libxfrag/libxfrag/canonical/Names", "isWhiteSpace", "(I)Z"⟩ : MethodName)) hown (mvT hZ (hw _ (List.mem_of_getElem? (i := 0) rfl))) (mvT hZ (hw _ (List.mem_of_getElem? (i := 1) rfl))) (mvT hZ (hw _ (List.mem_of_getElem? (i := 2) rfl))) (mvT hZ (hw _ (List.mem_of_getElem? (i := 3) rfl))) (by decide) (backOf (W := 0) (rm1 l Z a0 hw [] p1 h0 n0 Z0) hZ (hw _ (List.mem_of_getElem? (i := 3) rfl)) (hw _ (List.mem_of_getElem? (i := 2) rfl)) (by decide) (by decide)) (g := (mkF m 63 #[.val (.int p1), .val (.int p2), .val (.int (1 : Int32)), .val (.int p1), .val (.int (1 : Int32))] [(.int p1)])) rfl (by rw [hml]; rfl) (argsL := [(.int p1)]) (rest := []) (lenOf pd__I_Z rfl) rfl (by show 2 * 0 + _ ≤ _; exact Nat.le_of_eq rfl) (hb hby at_63) (fun _ _ => ⟨rfl, e0, (by decide : 0 + 0 ≤ _), (by decide : 0 + 0 ≤ _)⟩)
            dsimp only [Pt.U, Pt.locs, Pt.cells, Pt.slots] at X14 l14 y14 z14 st14 hQ14
            subst l14 y14 z14
            obtain ⟨rfl, N14q, e14⟩ := hQ14
            have N14 := Fr.app N0 N14q
            refine go (B := T14.setTop (mkF m 66 #[.val (.int p1), .val (.int p2), .val (.int (1 : Int32)), .val (.int p1), .val (.int (1 : Int32))] [(.int (fWS p1))])) (fun _ k => st14 _ k) ?_
            refine go (B := T14.setTop (mkF m 68 #[.val (.int p1), .val (.int p2), .val (.int (1 : Int32)), .val (.int p1), .val (.int (1 : Int32))] [(.int (1 : Int32)), (.int (fWS p1))])) (fun _ k => XS.iload X14.here hx rfl (hb hby at_66) rfl k) ?_
            by_cases hc68 : (fWS p1) = (1 : Int32)
            · refine go (B := T14.setTop (mkF m 71 #[.val (.int p1), .val (.int p2), .val (.int (1 : Int32)), .val (.int p1), .val (.int (1 : Int32))] [])) (fun _ k => XS.icmpNo X14.here hx rfl (hb hby at_68) rfl (teq hc68).2 k) ?_
              refine go (B := T14.setTop (mkF m 72 #[.val (.int p1), .val (.int p2), .val (.int (1 : Int32)), .val (.int p1), .val (.int (1 : Int32))] [(.int (1 : Int32))])) (fun _ k => XS.iconst X14.here hx rfl (hb hby at_71) k) ?_
              refine go (B := T14.setTop (mkF m 76 #[.val (.int p1), .val (.int p2), .val (.int (1 : Int32)), .val (.int p1), .val (.int (1 : Int32))] [(.int (1 : Int32))])) (fun _ k => XS.goto X14.here hx rfl (pc0 := 72) (pc' := 76) rfl (hb hby at_72) (by decide) (by decide) k) ?_
              refine goRetN X14 hx (t := .boolean) Bd.returns (by simp) hlk (hb hby at_76) ?_ (by decide) (by decide)
              rw [e14]
              exact ⟨rfl, N14⟩
            · refine go (B := T14.setTop (mkF m 75 #[.val (.int p1), .val (.int p2), .val (.int (1 : Int32)), .val (.int p1), .val (.int (1 : Int32))] [])) (fun _ k => XS.icmpYes X14.here hx rfl (pc0 := 68) (pc' := 75) rfl (hb hby at_68) rfl (feq hc68).2 (by decide) (by decide) k) ?_
              refine go (B := T14.setTop (mkF m 76 #[.val (.int p1), .val (.int p2), .val (.int (1 : Int32)), .val (.int p1), .val (.int (1 : Int32))] [(.int (0 : Int32))])) (fun _ k => XS.iconst X14.here hx rfl (hb hby at_75) k) ?_
              refine goRetN X14 hx (t := .boolean) Bd.returns (by simp) hlk (hb hby at_76) ?_ (by decide) (by decide)
              rw [e14]
              exfalso
              have q := fWS_int p1
              simp only [Int32.lt_iff_toInt_lt, Int64.lt_iff_toInt_lt, ← Int32.toInt_inj, ← Int64.toInt_inj, Int32.reduceToInt, Int64.reduceToInt] at  hc3 hc28 hc34 hc40 hc52 hc68
              omega
          · refine go (B := s₁.setTop (mkF m 59 #[.val (.int p1), .val (.int p2), .val (.int (1 : Int32)), .val (.int p1), .unset] [])) (fun _ k => XS.icmpYes X0.here hx rfl (pc0 := 52) (pc' := 59) rfl (hb hby at_52) rfl (feq hc52).2 (by decide) (by decide) k) ?_
            refine go (B := s₁.setTop (mkF m 60 #[.val (.int p1), .val (.int p2), .val (.int (1 : Int32)), .val (.int p1), .unset] [(.int (0 : Int32))])) (fun _ k => XS.iconst X0.here hx rfl (hb hby at_59) k) ?_
            refine go (B := s₁.setTop (mkF m 62 #[.val (.int p1), .val (.int p2), .val (.int (1 : Int32)), .val (.int p1), .val (.int (0 : Int32))] [])) (fun _ k => XS.istore X0.here hx rfl (hb hby at_60) rfl (l' := #[.val (.int p1), .val (.int p2), .val (.int (1 : Int32)), .val (.int p1), .val (.int (0 : Int32))]) rfl k) ?_
            refine go (B := s₁.setTop (mkF m 63 #[.val (.int p1), .val (.int p2), .val (.int (1 : Int32)), .val (.int p1), .val (.int (0 : Int32))] [(.int p1)])) (fun _ k => XS.iloadN X0.here hx rfl (hb hby at_62) rfl k) ?_
            obtain ⟨_, _, ⟨T15, L15, k15, n15⟩, -, X15, ⟨Lc15, hQ15, l15, y15, z15⟩, st15⟩ := Jvm.LawKit.callS X0 hx (y := (⟨"com/example/libxfrag/libxfrag/canonical/Names", "isWhiteSpace", "(I)Z"⟩ : MethodName)) hown (mvT hZ (hw _ (List.mem_of_getElem? (i := 0) rfl))) (mvT hZ (hw _ (List.mem_of_getElem? (i := 1) rfl))) (mvT hZ (hw _ (List.mem_of_getElem? (i := 2) rfl))) (mvT hZ (hw _ (List.mem_of_getElem? (i := 3) rfl))) (by decide) (backOf (W := 0) (rm1 l Z a0 hw [] p1 h0 n0 Z0) hZ (hw _ (List.mem_of_getElem? (i := 3) rfl)) (hw _ (List.mem_of_getElem? (i := 2) rfl)) (by decide) (by decide)) (g := (mkF m 63 #[.val (.int p1), .val (.int p2), .val (.int (1 : Int32)), .val (.int p1), .val (.int (0 : Int32))] [(.int p1)])) rfl (by rw [hml]; rfl) (argsL := [(.int p1)]) (rest := []) (lenOf pd__I_Z rfl) rfl (by show 2 * 0 + _ ≤ _; exact Nat.le_of_eq rfl) (hb hby at_63) (fun _ _ => ⟨rfl, e0, (by decide : 0 + 0 ≤ _), (by decide : 0 + 0 ≤ _)⟩)
            dsimp only [Pt.U, Pt.locs, Pt.cells, Pt.slots] at X15 l15 y15 z15 st15 hQ15
            subst l15 y15 z15
            obtain ⟨rfl, N15q, e15⟩ := hQ15
            have N15 := Fr.app N0 N15q
            refine go (B := T15.setTop (mkF m 66 #[.val (.int p1), .val (.int p2), .val (.int (1 : Int32)), .val (.int p1), .val (.int (0 : Int32))] [(.int (fWS p1))])) (fun _ k => st15 _ k) ?_
            refine go (B := T15.setTop (mkF m 68 #[.val (.int p1), .val (.int p2), .val (.int (1 : Int32)), .val (.int p1), .val (.int (0 : Int32))] [(.int (0 : Int32)), (.int (fWS p1))])) (fun _ k => XS.iload X15.here hx rfl (hb hby at_66) rfl k) ?_
            by_cases hc68 : (fWS p1) = (0 : Int32)
            · refine go (B := T15.setTop (mkF m 71 #[.val (.int p1), .val (.int p2), .val (.int (1 : Int32)), .val (.int p1), .val (.int (0 : Int32))] [])) (fun _ k => XS.icmpNo X15.here hx rfl (hb hby at_68) rfl (teq hc68).2 k) ?_
              refine go (B := T15.setTop (mkF m 72 #[.val (.int p1), .val (.int p2), .val (.int (1 : Int32)), .val (.int p1), .val (.int (0 : Int32))] [(.int (1 : Int32))])) (fun _ k => XS.iconst X15.here hx rfl (hb hby at_71) k) ?_
              refine go (B := T15.setTop (mkF m 76 #[.val (.int p1), .val (.int p2), .val (.int (1 : Int32)), .val (.int p1), .val (.int (0 : Int32))] [(.int (1 : Int32))])) (fun _ k => XS.goto X15.here hx rfl (pc0 := 72) (pc' := 76) rfl (hb hby at_72) (by decide) (by decide) k) ?_
              refine goRetN X15 hx (t := .boolean) Bd.returns (by simp) hlk (hb hby at_76) ?_ (by decide) (by decide)
              rw [e15]
              exact ⟨rfl, N15⟩
            · refine go (B := T15.setTop (mkF m 75 #[.val (.int p1), .val (.int p2), .val (.int (1 : Int32)), .val (.int p1), .val (.int (0 : Int32))] [])) (fun _ k => XS.icmpYes X15.here hx rfl (pc0 := 68) (pc' := 75) rfl (hb hby at_68) rfl (feq hc68).2 (by decide) (by decide) k) ?_
              refine go (B := T15.setTop (mkF m 76 #[.val (.int p1), .val (.int p2), .val (.int (1 : Int32)), .val (.int p1), .val (.int (0 : Int32))] [(.int (0 : Int32))])) (fun _ k => XS.iconst X15.here hx rfl (hb hby at_75) k) ?_
              refine goRetN X15 hx (t := .boolean) Bd.returns (by simp) hlk (hb hby at_76) ?_ (by decide) (by decide)
              rw [e15]
              exfalso
              have q := fWS_int p1
              simp only [Int32.lt_iff_toInt_lt, Int64.lt_iff_toInt_lt, ← Int32.toInt_inj, ← Int64.toInt_inj, Int32.reduceToInt, Int64.reduceToInt] at  hc3 hc28 hc34 hc40 hc52 hc68
              omega
        · refine go (B := s₁.setTop (mkF m 43 #[.val (.int p1), .val (.int p2), .val (.int (1 : Int32)), .val (.int p1), .unset] [])) (fun _ k => XS.icmpNo X0.here hx rfl (hb hby at_40) rfl (feq hc40).1 k) ?_
          refine go (B := s₁.setTop (mkF m 44 #[.val (.int p1), .val (.int p2), .val (.int (1 : Int32)), .val (.int p1), .unset] [(.int p1)])) (fun _ k => XS.iloadN X0.here hx rfl (hb hby at_43) rfl k) ?_
          refine go (B := s₁.setTop (mkF m 46 #[.val (.int p1), .val (.int p2), .val (.int (1 : Int32)), .val (.int p1), .unset] [(.int (12 : Int32)), (.int p1)])) (fun _ k => XS.bipush X0.here hx rfl (hb hby at_44) k) ?_
          by_cases hc46 : p1 = (12 : Int32)
          · refine go (B := s₁.setTop (mkF m 49 #[.val (.int p1), .val (.int p2), .val (.int (1 : Int32)), .val (.int p1), .unset] [])) (fun _ k => XS.icmpNo X0.here hx rfl (hb hby at_46) rfl (teq hc46).2 k) ?_
            refine go (B := s₁.setTop (mkF m 50 #[.val (.int p1), .val (.int p2), .val (.int (1 : Int32)), .val (.int p1), .unset] [(.int p1)])) (fun _ k => XS.iloadN X0.here hx rfl (hb hby at_49) rfl k) ?_
            refine go (B := s₁.setTop (mkF m 52 #[.val (.int p1), .val (.int p2), .val (.int (1 : Int32)), .val (.int p1), .unset] [(.int (32 : Int32)), (.int p1)])) (fun _ k => XS.bipush X0.here hx rfl (hb hby at_50) k) ?_
            by_cases hc52 : p1 = (32 : Int32)
            · refine go (B := s₁.setTop (mkF m 55 #[.val (.int p1), .val (.int p2), .val (.int (1 : Int32)), .val (.int p1), .unset] [])) (fun _ k => XS.icmpNo X0.here hx rfl (hb hby at_52) rfl (teq hc52).2 k) ?_
              refine go (B := s₁.setTop (mkF m 56 #[.val (.int p1), .val (.int p2), .val (.int (1 : Int32)), .val (.int p1), .unset] [(.int (1 : Int32))])) (fun _ k => XS.iconst X0.here hx rfl (hb hby at_55) k) ?_
              refine go (B := s₁.setTop (mkF m 60 #[.val (.int p1), .val (.int p2), .val (.int (1 : Int32)), .val (.int p1), .unset] [(.int (1 : Int32))])) (fun _ k => XS.goto X0.here hx rfl (pc0 := 56) (pc' := 60) rfl (hb hby at_56) (by decide) (by decide) k) ?_
              refine go (B := s₁.setTop (mkF m 62 #[.val (.int p1), .val (.int p2), .val (.int (1 : Int32)), .val (.int p1), .val (.int (1 : Int32))] [])) (fun _ k => XS.istore X0.here hx rfl (hb hby at_60) rfl (l' := #[.val (.int p1), .val (.int p2), .val (.int (1 : Int32)), .val (.int p1), .val (.int (1 : Int32))]) rfl k) ?_
              refine go (B := s₁.setTop (mkF m 63 #[.val (.int p1), .val (.int p2), .val (.int (1 : Int32)), .val (.int p1), .val (.int (1 : Int32))] [(.int p1)])) (fun _ k => XS.iloadN X0.here hx rfl (hb hby at_62) rfl k) ?_
              obtain ⟨_, _, ⟨T16, L16, k16, n16⟩, -, X16, ⟨Lc16, hQ16, l16, y16, z16⟩, st16⟩ := Jvm.LawKit.callS X0 hx (y := (⟨"com/example/libxfrag/libxfrag/canonical/Names", "isWhiteSpace", "(I)Z"⟩ : MethodName)) hown (mvT hZ (hw _ (List.mem_of_getElem? (i := 0) rfl))) (mvT hZ (hw _ (List.mem_of_getElem? (i := 1) rfl))) (mvT hZ (hw _ (List.mem_of_getElem? (i := 2) rfl))) (mvT hZ (hw _ (List.mem_of_getElem? (i := 3) rfl))) (by decide) (backOf (W := 0) (rm1 l Z a0 hw [] p1 h0 n0 Z0) hZ (hw _ (List.mem_of_getElem? (i := 3) rfl)) (hw _ (List.mem_of_getElem? (i := 2) rfl)) (by decide) (by decide)) (g := (mkF m 63 #[.val (.int p1), .val (.int p2), .val (.int (1 : Int32)), .val (.int p1), .val (.int (1 : Int32))] [(.int p1)])) rfl (by rw [hml]; rfl) (argsL := [(.int p1)]) (rest := []) (lenOf pd__I_Z rfl) rfl (by show 2 * 0 + _ ≤ _; exact Nat.le_of_eq rfl) (hb hby at_63) (fun _ _ => ⟨rfl, e0, (by decide : 0 + 0 ≤ _), (by decide : 0 + 0 ≤ _)⟩)
              dsimp only [Pt.U, Pt.locs, Pt.cells, Pt.slots] at X16 l16 y16 z16 st16 hQ16
              subst l16 y16 z16
              obtain ⟨rfl, N16q, e16⟩ := hQ16
              have N16 := Fr.app N0 N16q
              refine go (B := T16.setTop (mkF m 66 #[.val (.int p1), .val (.int p2), .val (.int (1 : Int32)), .val (.int p1), .val (.int (1 : Int32))] [(.int (fWS p1))])) (fun _ k => st16 _ k) ?_
              refine go (B := T16.setTop (mkF m 68 #[.val (.int p1), .val (.int p2), .val (.int (1 : Int32)), .val (.int p1), .val (.int (1 : Int32))] [(.int (1 : Int32)), (.int (fWS p1))])) (fun _ k => XS.iload X16.here hx rfl (hb hby at_66) rfl k) ?_
              by_cases hc68 : (fWS p1) = (1 : Int32)
              · refine go (B := T16.setTop (mkF m 71 #[.val (.int p1), .val (.int p2), .val (.int (1 : Int32)), .val (.int p1), .val (.int (1 : Int32))] [])) (fun _ k => XS.icmpNo X16.here hx rfl (hb hby at_68) rfl (teq hc68).2 k) ?_
                refine go (B := T16.setTop (mkF m 72 #[.val (.int p1), .val (.int p2), .val (.int (1 : Int32)), .val (.int p1), .val (.int (1 : Int32))] [(.int (1 : Int32))])) (fun _ k => XS.iconst X16.here hx rfl (hb hby at_71) k) ?_
                refine go (B := T16.setTop (mkF m 76 #[.val (.int p1), .val (.int p2), .val (.int (1 : Int32)), .val (.int p1), .val (.int (1 : Int32))] [(.int (1 : Int32))])) (fun _ k => XS.goto X16.here hx rfl (pc0 := 72) (pc' := 76) rfl (hb hby at_72) (by decide) (by decide) k) ?_
                refine goRetN X16 hx (t := .boolean) Bd.returns (by simp) hlk (hb hby at_76) ?_ (by decide) (by decide)
                rw [e16]
                exact ⟨rfl, N16⟩
              · refine go (B := T16.setTop (mkF m 75 #[.val (.int p1), .val (.int p2), .val (.int (1 : Int32)), .val (.int p1), .val (.int (1 : Int32))] [])) (fun _ k => XS.icmpYes X16.here hx rfl (pc0 := 68) (pc' := 75) rfl (hb hby at_68) rfl (feq hc68).2 (by decide) (by decide) k) ?_
                refine go (B := T16.setTop (mkF m 76 #[.val (.int p1), .val (.int p2), .val (.int (1 : Int32)), .val (.int p1), .val (.int (1 : Int32))] [(.int (0 : Int32))])) (fun _ k => XS.iconst X16.here hx rfl (hb hby at_75) k) ?_
                refine goRetN X16 hx (t := .boolean) Bd.returns (by simp) hlk (hb hby at_76) ?_ (by decide) (by decide)
                rw [e16]
                exfalso
                have q := fWS_int p1
                simp only [Int32.lt_iff_toInt_lt, Int64.lt_iff_toInt_lt, ← Int32.toInt_inj, ← Int64.toInt_inj, Int32.reduceToInt, Int64.reduceToInt] at  hc3 hc28 hc34 hc40 hc46 hc52 hc68
                omega
            · refine go (B := s₁.setTop (mkF m 59 #[.val (.int p1), .val (.int p2), .val (.int (1 : Int32)), .val (.int p1), .unset] [])) (fun _ k => XS.icmpYes X0.here hx rfl (pc0 := 52) (pc' := 59) rfl (hb hby at_52) rfl (feq hc52).2 (by decide) (by decide) k) ?_
              refine go (B := s₁.setTop (mkF m 60 #[.val (.int p1), .val (.int p2), .val (.int (1 : Int32)), .val (.int p1), .unset] [(.int (0 : Int32))])) (fun _ k => XS.iconst X0.here hx rfl (hb hby at_59) k) ?_
              refine go (B := s₁.setTop (mkF m 62 #[.val (.int p1), .val (.int p2), .val (.int (1 : Int32)), .val (.int p1), .val (.int (0 : Int32))] [])) (fun _ k => XS.istore X0.here hx rfl (hb hby at_60) rfl (l' := #[.val (.int p1), .val (.int p2), .val (.int (1 : Int32)), .val (.int p1), .val (.int (0 : Int32))]) rfl k) ?_
              refine go (B := s₁.setTop (mkF m 63 #[.val (.int p1), .val (.int p2), .val (.int (1 : Int32)), .val (.int p1), .val (.int (0 : Int32))] [(.int p1)])) (fun _ k => XS.iloadN X0.here hx rfl (hb hby at_62) rfl k) ?_
              obtain ⟨_, _, ⟨T17, L17, k17, n17⟩, -, X17, ⟨Lc17, hQ17, l17, y17, z17⟩, st17⟩ := Jvm.LawKit.callS X0 hx (y := (⟨"com/example/libxfrag/libxfrag/canonical/Names", "isWhiteSpace", "(I)Z"⟩ : MethodName)) hown (mvT hZ (hw _ (List.mem_of_getElem? (i := 0) rfl))) (mvT hZ (hw _ (List.mem_of_getElem? (i := 1) rfl))) (mvT hZ (hw _ (List.mem_of_getElem? (i := 2) rfl))) (mvT hZ (hw _ (List.mem_of_getElem? (i := 3) rfl))) (by decide) (backOf (W := 0) (rm1 l Z a0 hw [] p1 h0 n0 Z0) hZ (hw _ (List.mem_of_getElem? (i := 3) rfl)) (hw _ (List.mem_of_getElem? (i := 2) rfl)) (by decide) (by decide)) (g := (mkF m 63 #[.val (.int p1), .val (.int p2), .val (.int (1 : Int32)), .val (.int p1), .val (.int (0 : Int32))] [(.int p1)])) rfl (by rw [hml]; rfl) (argsL := [(.int p1)]) (rest := []) (lenOf pd__I_Z rfl) rfl (by show 2 * 0 + _ ≤ _; exact Nat.le_of_eq rfl) (hb hby at_63) (fun _ _ => ⟨rfl, e0, (by decide : 0 + 0 ≤ _), (by decide : 0 + 0 ≤ _)⟩)
              dsimp only [Pt.U, Pt.locs, Pt.cells, Pt.slots] at X17 l17 y17 z17 st17 hQ17
              subst l17 y17 z17
              obtain ⟨rfl, N17q, e17⟩ := hQ17
              have N17 := Fr.app N0 N17q
              refine go (B := T17.setTop (mkF m 66 #[.val (.int p1), .val (.int p2), .val (.int (1 : Int32)), .val (.int p1), .val (.int (0 : Int32))] [(.int (fWS p1))])) (fun _ k => st17 _ k) ?_
              refine go (B := T17.setTop (mkF m 68 #[.val (.int p1), .val (.int p2), .val (.int (1 : Int32)), .val (.int p1), .val (.int (0 : Int32))] [(.int (0 : Int32)), (.int (fWS p1))])) (fun _ k => XS.iload X17.here hx rfl (hb hby at_66) rfl k) ?_
              by_cases hc68 : (fWS p1) = (0 : Int32)
              · refine go (B := T17.setTop (mkF m 71 #[.val (.int p1), .val (.int p2), .val (.int (1 : Int32)), .val (.int p1), .val (.int (0 : Int32))] [])) (fun _ k => XS.icmpNo X17.here hx rfl (hb hby at_68) rfl (teq hc68).2 k) ?_
                refine go (B := T17.setTop (mkF m 72 #[.val (.int p1), .val (.int p2), .val (.int (1 : Int32)), .val (.int p1), .val (.int (0 : Int32))] [(.int (1 : Int32))])) (fun _ k => XS.iconst X17.here hx rfl (hb hby at_71) k) ?_
                refine go (B := T17.setTop (mkF m 76 #[.val (.int p1), .val (.int p2), .val (.int (1 : Int32)), .val (.int p1), .val (.int (0 : Int32))] [(.int (1 : Int32))])) (fun _ k => XS.goto X17.here hx rfl (pc0 := 72) (pc' := 76) rfl (hb hby at_72) (by decide) (by decide) k) ?_
                refine goRetN X17 hx (t := .boolean) Bd.returns (by simp) hlk (hb hby at_76) ?_ (by decide) (by decide)
                rw [e17]
                exact ⟨rfl, N17⟩
              · refine go (B := T17.setTop (mkF m 75 #[.val (.int p1), .val (.int p2), .val (.int (1 : Int32)), .val (.int p1), .val (.int (0 : Int32))] [])) (fun _ k => XS.icmpYes X17.here hx rfl (pc0 := 68) (pc' := 75) rfl (hb hby at_68) rfl (feq hc68).2 (by decide) (by decide) k) ?_
                refine go (B := T17.setTop (mkF m 76 #[.val (.int p1), .val (.int p2), .val (.int (1 : Int32)), .val (.int p1), .val (.int (0 : Int32))] [(.int (0 : Int32))])) (fun _ k => XS.iconst X17.here hx rfl (hb hby at_75) k) ?_
                refine goRetN X17 hx (t := .boolean) Bd.returns (by simp) hlk (hb hby at_76) ?_ (by decide) (by decide)
                rw [e17]
                exfalso
                have q := fWS_int p1
                simp only [Int32.lt_iff_toInt_lt, Int64.lt_iff_toInt_lt, ← Int32.toInt_inj, ← Int64.toInt_inj, Int32.reduceToInt, Int64.reduceToInt] at  hc3 hc28 hc34 hc40 hc46 hc52 hc68
                omega
          · refine go (B := s₁.setTop (mkF m 55 #[.val (.int p1), .val (.int p2), .val (.int (1 : Int32)), .val (.int p1), .unset] [])) (fun _ k => XS.icmpYes X0.here hx rfl (pc0 := 46) (pc' := 55) rfl (hb hby at_46) rfl (feq hc46).2 (by decide) (by decide) k) ?_
            refine go (B := s₁.setTop (mkF m 56 #[.val (.int p1), .val (.int p2), .val (.int (1 : Int32)), .val (.int p1), .unset] [(.int (1 : Int32))])) (fun _ k => XS.iconst X0.here hx rfl (hb hby at_55) k) ?_
            refine go (B := s₁.setTop (mkF m 60 #[.val (.int p1), .val (.int p2), .val (.int (1 : Int32)), .val (.int p1), .unset] [(.int (1 : Int32))])) (fun _ k => XS.goto X0.here hx rfl (pc0 := 56) (pc' := 60) rfl (hb hby at_56) (by decide) (by decide) k) ?_
            refine go (B := s₁.setTop (mkF m 62 #[.val (.int p1), .val (.int p2), .val (.int (1 : Int32)), .val (.int p1), .val (.int (1 : Int32))] [])) (fun _ k => XS.istore X0.here hx rfl (hb hby at_60) rfl (l' := #[.val (.int p1), .val (.int p2), .val (.int (1 : Int32)), .val (.int p1), .val (.int (1 : Int32))]) rfl k) ?_
            refine go (B := s₁.setTop (mkF m 63 #[.val (.int p1), .val (.int p2), .val (.int (1 : Int32)), .val (.int p1), .val (.int (1 : Int32))] [(.int p1)])) (fun _ k => XS.iloadN X0.here hx rfl (hb hby at_62) rfl k) ?_
            obtain ⟨_, _, ⟨T18, L18, k18, n18⟩, -, X18, ⟨Lc18, hQ18, l18, y18, z18⟩, st18⟩ := Jvm.LawKit.callS X0 hx (y := (⟨"com/example/libxfrag/libxfrag/canonical/Names", "isWhiteSpace", "(I)Z"⟩ : MethodName)) hown (mvT hZ (hw _ (List.mem_of_getElem? (i := 0) rfl))) (mvT hZ (hw _ (List.mem_of_getElem? (i := 1) rfl))) (mvT hZ (hw _ (List.mem_of_getElem? (i := 2) rfl))) (mvT hZ (hw _ (List.mem_of_getElem? (i := 3) rfl))) (by decide) (backOf (W := 0) (rm1 l Z a0 hw [] p1 h0 n0 Z0) hZ (hw _ (List.mem_of_getElem? (i := 3) rfl)) (hw _ (List.mem_of_getElem? (i := 2) rfl)) (by decide) (by decide)) (g := (mkF m 63 #[.val (.int p1), .val (.int p2), .val (.int (1 : Int32)), .val (.int p1), .val (.int (1 : Int32))] [(.int p1)])) rfl (by rw [hml]; rfl) (argsL := [(.int p1)]) (rest := []) (lenOf pd__I_Z rfl) rfl (by show 2 * 0 + _ ≤ _; exact Nat.le_of_eq rfl) (hb hby at_63) (fun _ _ => ⟨rfl, e0, (by decide : 0 + 0 ≤ _), (by decide : 0 + 0 ≤ _)⟩)
            dsimp only [Pt.U, Pt.locs, Pt.cells, Pt.slots] at X18 l18 y18 z18 st18 hQ18
            subst l18 y18 z18
            obtain ⟨rfl, N18q, e18⟩ := hQ18
            have N18 := Fr.app N0 N18q
            refine go (B := T18.setTop (mkF m 66 #[.val (.int p1), .val (.int p2), .val (.int (1 : Int32)), .val (.int p1), .val (.int (1 : Int32))] [(.int (fWS p1))])) (fun _ k => st18 _ k) ?_
            refine go (B := T18.setTop (mkF m 68 #[.val (.int p1), .val (.int p2), .val (.int (1 : Int32)), .val (.int p1), .val (.int (1 : Int32))] [(.int (1 : Int32)), (.int (fWS p1))])) (fun _ k => XS.iload X18.here hx rfl (hb hby at_66) rfl k) ?_
            by_cases hc68 : (fWS p1) = (1 : Int32)
            · refine go (B := T18.setTop (mkF m 71 #[.val (.int p1), .val (.int p2), .val (.int (1 : Int32)), .val (.int p1), .val (.int (1 : Int32))] [])) (fun _ k => XS.icmpNo X18.here hx rfl (hb hby at_68) rfl (teq hc68).2 k) ?_
              refine go (B := T18.setTop (mkF m 72 #[.val (.int p1), .val (.int p2), .val (.int (1 : Int32)), .val (.int p1), .val (.int (1 : Int32))] [(.int (1 : Int32))])) (fun _ k => XS.iconst X18.here hx rfl (hb hby at_71) k) ?_
              refine go (B := T18.setTop (mkF m 76 #[.val (.int p1), .val (.int p2), .val (.int (1 : Int32)), .val (.int p1), .val (.int (1 : Int32))] [(.int (1 : Int32))])) (fun _ k => XS.goto X18.here hx rfl (pc0 := 72) (pc' := 76) rfl (hb hby at_72) (by decide) (by decide) k) ?_
              refine goRetN X18 hx (t := .boolean) Bd.returns (by simp) hlk (hb hby at_76) ?_ (by decide) (by decide)
              rw [e18]
              exact ⟨rfl, N18⟩
            · refine go (B := T18.setTop (mkF m 75 #[.val (.int p1), .val (.int p2), .val (.int (1 : Int32)), .val (.int p1), .val (.int (1 : Int32))] [])) (fun _ k => XS.icmpYes X18.here hx rfl (pc0 := 68) (pc' := 75) rfl (hb hby at_68) rfl (feq hc68).2 (by decide) (by decide) k) ?_
              refine go (B := T18.setTop (mkF m 76 #[.val (.int p1), .val (.int p2), .val (.int (1 : Int32)), .val (.int p1), .val (.int (1 : Int32))] [(.int (0 : Int32))])) (fun _ k => XS.iconst X18.here hx rfl (hb hby at_75) k) ?_
              refine goRetN X18 hx (t := .boolean) Bd.returns (by simp) hlk (hb hby at_76) ?_ (by decide) (by decide)
              rw [e18]
              exfalso
              have q := fWS_int p1
              simp only [Int32.lt_iff_toInt_lt, Int64.lt_iff_toInt_lt, ← Int32.toInt_inj, ← Int64.toInt_inj, Int32.reduceToInt, Int64.reduceToInt] at  hc3 hc28 hc34 hc40 hc46 hc68
              omega
set_option maxRecDepth 65536 in
set_option maxHeartbeats 40000000 in
theorem comes_1 {Post : Tables → Env → Array Value → State → Outcome → State → Prop} (hpost : ∀ tb e args s v u, (limb_1_1.after args s (.returned v) u = true ∧ limb_1_2.after args s (.returned v) u = true ∧ True) → FrameEnd s (.returned v) u (Jvm.fieldLocs frame_1_writes args s ++ Jvm.arrayLocs frame_1_arrays args s ++ Jvm.staticLocs frame_1_statics s) 0 0 → Post tb e args s (.returned v) u) :
    ArmFor flags0 classFile x code maxLocals ret World_1 tables_1 room_1 Calls_1 rest_1 Pre_1 Post := by
  intro l hfl _ _ p e ha hc hk s m args below hf hA hF happ hP
  obtain ⟨hcalls, hrest, hpre⟩ := hP
  obtain ⟨-, -, -, hnamed, -, -, -, hat⟩ := (Spec.applies_iff hf).mp happ
  obtain ⟨hg, hn⟩ := and_e (Cond.before_iff.mp (show (Jvm.Cond.and given_1 narrow_1).before args s = true from hpre))
  obtain ⟨hcnt, gg0⟩ := and_e hg
  obtain ⟨ga0, gg1⟩ := and_e gg0
  obtain ⟨w0, w1, rfl⟩ : ∃ w0 w1 : Value, args = #[w0, w1] := by
    have hs : args.size = 2 := by simpa [Cond.value, given_1] using hcnt
    obtain ⟨L⟩ := args
    match L, hs with
    | [w0, w1], _ => exact ⟨w0, w1, rfl⟩
  have hw := fun d (hd : d ∈ tables_1) => atoms_spec (ws := Jvm.Cond.code x code maxLocals ret :: tables_1) hat d (List.mem_cons_of_mem _ hd)
  have hfit : Fit s := fun {y c} hc i hi => by
    obtain ⟨ha, rfl⟩ := Array.getElem?_eq_some_iff.mp hc
    have q := List.all_eq_true.mp ((Array.all_eq_true_iff_forall_mem.mp hF) _ (Array.getElem_mem ha)) i (List.mem_range.mpr hi)
    simpa [Array.getElem?_eq_getElem hi] using q
  obtain ⟨i0, ei0⟩ := is_v ga0
  obtain rfl : w0 = (.int i0) := Option.some.inj ei0
  obtain ⟨i1, ei1⟩ := is_v gg1
  obtain rfl : w1 = (.int i1) := Option.some.inj ei1
  obtain ⟨n, o, h1, h2, h3, _, L, rfl, ⟨rfl, N⟩, hq⟩ := rm0 l s _ hw tables_1 i0 i1 s.heap s.heap.size (Nat.le_refl _) p e ha hc hk s m _ below hf ((Spec.applies_iff_loose hf).mp happ).1 ⟨rfl, State.Warmed39.refl s, rfl⟩ trivial
  refine ⟨n, _, h1, h2, h3, hpost _ _ _ _ _ _ ⟨Cond.after_iff.mpr rfl, Cond.after_iff.mpr (eq_i res_at (Term.int_eval (1)) rfl), trivial⟩ ⟨hq.1, hq.2.1, (hq.2.2.sift fun y hy => Or.inr (N y hy)).mono (by decide) (by decide)⟩⟩
theorem main_1_1 : Claimed_1_1 := comes_1 fun _ _ _ _ _ _ h hF => ⟨h.1, hF⟩
theorem main_1_2 : Claimed_1_2 := comes_1 fun _ _ _ _ _ _ h hF => ⟨h.2.1, hF⟩
end Jvm.Pilot.@@N@@
namespace Jvm.Pilot.@@N@@
open Jvm Jvm.ClassFile Sem Op Lib Jvm.Free Jvm.Stand Jvm.Pilot.@@N@@.Jvm.D
/-! MADE BY PROGRAM (witnessworld.py) out of the Statement's table words and the real class files: 9 classes; the members and pool entries that the words name. The judged class is class 1, her method 1. -/
namespace start1
open Jvm.ClassFile
def u (s : String) : CpInfo := .utf8 (stringToUtf16 s)
/-- a pool by its gaps: so many unusable entries, then the entry; so many at the end -/
def gap : Nat → List CpInfo → List CpInfo
  | 0, r => r
  | n + 1, r => .unusable :: gap n r
def poolList (es : List (Nat × CpInfo)) (last : Nat) : List CpInfo := es.foldr (fun e r => gap e.1 (e.2 :: r)) (gap last [])
def pool (es : List (Nat × CpInfo)) (last : Nat) : Array CpInfo := ⟨poolList es last⟩
def fileOf (pool : Array CpInfo) (this : Nat) (attrs : Array Attribute := #[]) (ms : Array MethodInfo := #[]) (fl : Nat := 33) (sup : Nat := 0) (ifs : Array Nat := #[]) (fds : Array FieldInfo := #[]) : ClassFile where
  minorVersion := 0
  majorVersion := 65
  constantPool := pool
  accessFlags := fl
  thisClass := this
  superClass := sup
  interfaces := ifs
  fields := fds
  methods := ms
  attributes := attrs
def plain (name : String) (sup : Option ClassId) : Class where
  name := name
  kind := .ordinary
  loader := none
  accessFlags := 33
  super := sup
  interfaces := #[]
  cf := none
  fields := #[]
  methods := #[]
  instanceTypes := #[]
  staticTypes := #[]
  resolved := #[]
  callSites := []
  init := .initialized
  statics := none
  mirror := none

def pool0 : Array CpInfo := pool [(5, u "<init>"), (0, u "()V"), (1, .class_ 10), (1, u "java/lang/Object")] 113

def k0m0 : Method := { name := "<init>", desc := "()V", sig := { parameters := [], returnType := none }, accessFlags := 1, code := none }
/-- java/lang/Object -/
def k0 : Class := { plain "java/lang/Object" none with
  accessFlags := 33
  interfaces := #[]
  cf := some (fileOf pool0 8 #[] #[{ accessFlags := 1, nameIndex := 5, descriptorIndex := 6, attributes := #[] }] 33 0 #[] #[])
  fields := #[]
  methods := #[k0m0]
  instanceTypes := #[]
  staticTypes := #[]
  resolved := Array.replicate 124 none
  statics := none }

def pool1 : Array CpInfo := pool [(2, .class_ 4), (1, u "java/lang/Object"), (0, u "<init>"), (0, u "()V"), (0, .methodref 8 9), (0, .class_ 10), (0, .nameAndType 11 12), (0, u "com/example/libxfrag/libxfrag/canonical/Names"), (0, u "isWhiteSpace"), (0, u "(I)Z"), (0, .class_ 14), (0, u "com/example/libxfrag/libxfrag/canonical/NamesIsWhiteSpacePinLaw"), (2, u "law"), (0, u "(II)Z")] 3

def k1m0 : Method := { name := "<init>", desc := "()V", sig := { parameters := [], returnType := none }, accessFlags := 2, code := none }
def k1c1 : Code := { maxStack := 2, maxLocals := 5, code := code, exceptionTable := #[], attributes := #[] }
def k1m1 : Method := { name := "law", desc := "(II)Z", sig := { parameters := [.int, .int], returnType := some .boolean }, accessFlags := 9, code := some k1c1 }
/-- com/example/libxfrag/libxfrag/canonical/NamesIsWhiteSpacePinLaw -/
def k1 : Class := { plain "com/example/libxfrag/libxfrag/canonical/NamesIsWhiteSpacePinLaw" (some 0) with
  accessFlags := 49
  interfaces := #[]
  cf := some (fileOf pool1 13 #[] #[{ accessFlags := 2, nameIndex := 5, descriptorIndex := 6, attributes := #[] }, { accessFlags := 9, nameIndex := 17, descriptorIndex := 18, attributes := #[] }] 49 2 #[] #[])
  fields := #[]
  methods := #[k1m0, k1m1]
  instanceTypes := #[]
  staticTypes := #[]
  resolved := Array.replicate 22 none
  statics := none }

def pool2 : Array CpInfo := pool [(2, .class_ 4), (1, u "java/lang/Object"), (0, u "<init>"), (0, u "()V"), (7, .class_ 16), (1, u "com/example/libxfrag/libxfrag/canonical/Names"), (87, u "NAME_START_CHARS"), (0, u "[I"), (6, u "MORE_NAME_CHARS"), (7, u "WHITE_SPACE"), (0, u "Ljava/lang/String;"), (3, u "FOR_DECLARATIONS"), (4, u "isWhiteSpace"), (0, u "(I)Z")] 33

def k2m0 : Method := { name := "<init>", desc := "()V", sig := { parameters := [], returnType := none }, accessFlags := 2, code := none }
def k2c1 : Code := { maxStack := 2, maxLocals := 1, code := prog_9_method_2_code, exceptionTable := #[], attributes := #[] }
def k2m1 : Method := { name := "isWhiteSpace", desc := "(I)Z", sig := { parameters := [.int], returnType := some .boolean }, accessFlags := 9, code := some k2c1 }
/-- com/example/libxfrag/libxfrag/canonical/Names -/
def k2 : Class := { plain "com/example/libxfrag/libxfrag/canonical/Names" (some 0) with
  accessFlags := 33
  interfaces := #[]
  cf := some (fileOf pool2 14 #[] #[{ accessFlags := 2, nameIndex := 5, descriptorIndex := 6, attributes := #[] }, { accessFlags := 9, nameIndex := 130, descriptorIndex := 131, attributes := #[] }] 33 2 #[] #[{ accessFlags := 25, nameIndex := 120, descriptorIndex := 121, attributes := #[] }, { accessFlags := 26, nameIndex := 104, descriptorIndex := 105, attributes := #[] }, { accessFlags := 26, nameIndex := 112, descriptorIndex := 105, attributes := #[] }, { accessFlags := 26, nameIndex := 125, descriptorIndex := 121, attributes := #[] }])
  fields := #[{ name := "WHITE_SPACE", type := (.object "java/lang/String"), accessFlags := 25, slot := 0, constantValue := 0 }, { name := "NAME_START_CHARS", type := (.array .int), accessFlags := 26, slot := 1, constantValue := 0 }, { name := "MORE_NAME_CHARS", type := (.array .int), accessFlags := 26, slot := 2, constantValue := 0 }, { name := "FOR_DECLARATIONS", type := (.object "java/lang/String"), accessFlags := 26, slot := 3, constantValue := 0 }]
  methods := #[k2m0, k2m1]
  instanceTypes := #[]
  staticTypes := #[(.object "java/lang/String"), (.array .int), (.array .int), (.object "java/lang/String")]
  resolved := Array.replicate 165 none
  statics := none }

def pool3 : Array CpInfo := pool [(1, u "java/lang/Cloneable"), (0, .class_ 1), (0, u "java/lang/Object"), (0, .class_ 3)] 3

/-- java/lang/Cloneable -/
def k3 : Class := { plain "java/lang/Cloneable" (some 0) with
  accessFlags := 1537
  interfaces := #[]
  cf := some (fileOf pool3 2 #[] #[] 1537 4 #[] #[])
  fields := #[]
  methods := #[]
  instanceTypes := #[]
  staticTypes := #[]
  resolved := Array.replicate 8 none
  statics := none }

def pool4 : Array CpInfo := pool [(1, u "java/io/Serializable"), (0, .class_ 1), (0, u "java/lang/Object"), (0, .class_ 3)] 3

/-- java/io/Serializable -/
def k4 : Class := { plain "java/io/Serializable" (some 0) with
  accessFlags := 1537
  interfaces := #[]
  cf := some (fileOf pool4 2 #[] #[] 1537 4 #[] #[])
  fields := #[]
  methods := #[]
  instanceTypes := #[]
  staticTypes := #[]
  resolved := Array.replicate 8 none
  statics := none }

/-- the primitive byte -/
def k5 : Class := { plain "byte" none with kind := .primitive 'B', accessFlags := 0x411 }
/-- [B -/
def k6 : Class := { plain "[B" (some 0) with kind := .array 5 .byte, interfaces := #[3, 4], accessFlags := 1041 }

/-- the primitive int -/
def k7 : Class := { plain "int" none with kind := .primitive 'I', accessFlags := 0x411 }
/-- [I -/
def k8 : Class := { plain "[I" (some 0) with kind := .array 7 .int, interfaces := #[3, 4], accessFlags := 1041 }

def heap : Heap := #[]
def classes : Array Class := #[k0, k1, k2, k3, k4, k5, k6, k7, k8]
def interned : List (Array UInt16 × Addr) := []
def slotsUsed : Nat := 0
def theMethod : MethodId := ⟨1, 1⟩
def args0 : Array Value := #[.int 32, .int 1]
def aboutOver (below : List Frame) : State where
  vm := { classes := classes, interned := interned.toArray }
  heap := heap
  slotsUsed := slotsUsed
  threads := #[{ frames := .invoking theMethod args0 :: below }]
def below0 : List Frame := [.native { method := ⟨0, 0⟩, args := #[] }]
def about1 : State := aboutOver below0
def p0 : Program := .bare "" "" ""
def e0 : Env := launch0.env 0 0 0
theorem w_frames : about1.frames = Frame.invoking theMethod args0 :: below0 := rfl
set_option maxRecDepth 65536 in
theorem w_args : argsFit about1.vm theMethod args0 = true := by decide +kernel
set_option maxRecDepth 65536 in
theorem w_heap : heapFits about1 = true := by decide +kernel
set_option maxRecDepth 65536 in
theorem w_runnable : about1.curStatus? = some .runnable := by decide +kernel
set_option maxRecDepth 65536 in
theorem w_alone : about1.alone = true := by decide +kernel
set_option maxRecDepth 65536 in
theorem w_named : about1.methodNamed? x = some theMethod := by decide +kernel
set_option maxRecDepth 65536 in
theorem w_hears : about1.hears theMethod below0 = true := by decide +kernel
set_option maxRecDepth 65536 in
theorem w_ripe : about1.ripe theMethod args0 below0 = true := by decide +kernel
theorem w_running : about1.status = .running := rfl
set_option maxRecDepth 65536 in
theorem w_room : about1.hasRoom e0.platform room_1 = true :=
  launch0.hasRoom_least _ room_1 (by decide +kernel) (by decide +kernel) (by decide +kernel) (by decide +kernel) (by decide +kernel) (by decide +kernel)
theorem allAtoms_all (ts : List Jvm.Cond) (a : Array Jvm.Value) (st : Jvm.State) : (allAtoms ts).before a st = ts.all (fun c => c.before a st) := by
  induction ts with
  | nil => rfl
  | cons c t ih =>
    show (Jvm.Cond.and c (allAtoms t)).before a st = _
    rw [Jvm.Cond.before_and, ih, List.all_cons]
def words1 : List Jvm.Cond := Jvm.Cond.code x code maxLocals ret :: tables_1
/-- a 'code' word, met by the world's own term for the bytes: nothing is compared byte by byte -/
theorem code_word {y : MethodName} {bytes : ByteArray} {mx : Nat} {rt : Option FieldType} {a : Array Value} {s : State} {m : MethodId} {meth : Method} {c : Code} (h1 : s.methodNamed? y = some m) (h2 : s.vm.method? m = some meth) (h3 : meth.code = some c) (h4 : c.code = bytes)
    (h5 : (c.maxLocals == mx && c.exceptionTable.isEmpty && decide (c.maxStack ≤ mostOperands) && decide (meth.sig.returnType = rt) && !meth.locks && decide (parseMethodDescriptor y.desc = some meth.sig)) = true) : (Jvm.Cond.code y bytes mx rt).before a s = true := by
  simp only [Bool.and_eq_true, beq_iff_eq, Bool.not_eq_true', decide_eq_true_eq] at h5
  obtain ⟨⟨⟨⟨⟨g1, g2⟩, g3⟩, g4⟩, g5⟩, g6⟩ := h5
  simp [Cond.before, Cond.holds, Cond.value, h1, h2, h3, h4, g1, g2, g3, g4, g5, g6]
def isCode : Jvm.Cond → Bool
  | .code _ _ _ _ => true
  | _ => false
theorem all_split {L : List Jvm.Cond} {P : Jvm.Cond → Bool} (h1 : L.all (fun c => isCode c || P c) = true) (h2 : ∀ c ∈ L.filter isCode, P c = true) : L.all P = true := by
  refine List.all_eq_true.mpr fun c hc => ?_
  have h := List.all_eq_true.mp h1 c hc
  rcases Bool.eq_false_or_eq_true (isCode c) with hi | hi
  · exact h2 c (List.mem_filter.mpr ⟨hc, hi⟩)
  · simpa [hi] using h
set_option maxRecDepth 65536 in
theorem w_c0 : (Jvm.Cond.code x code maxLocals ret).before args0 about1 = true := code_word (m := ⟨1, 1⟩) (meth := k1m1) (c := k1c1) (by decide +kernel) rfl rfl rfl (by decide +kernel)
set_option maxRecDepth 65536 in
theorem w_c1 : (Jvm.Cond.code ({ cls := "com/example/libxfrag/libxfrag/canonical/Names", name := "isWhiteSpace", desc := "(I)Z" } : Jvm.MethodName) prog_9_method_2_code (1 : Nat) (Option.some Jvm.ClassFile.FieldType.boolean)).before args0 about1 = true := code_word (m := ⟨2, 1⟩) (meth := k2m1) (c := k2c1) (by decide +kernel) rfl rfl rfl (by decide +kernel)
def codes1 : List Jvm.Cond := [Jvm.Cond.code x code maxLocals ret, Jvm.Cond.code ({ cls := "com/example/libxfrag/libxfrag/canonical/Names", name := "isWhiteSpace", desc := "(I)Z" } : Jvm.MethodName) prog_9_method_2_code (1 : Nat) (Option.some Jvm.ClassFile.FieldType.boolean)]
set_option maxRecDepth 65536 in
theorem codes_eq : words1.filter isCode = codes1 := rfl
theorem w_codes : ∀ c ∈ words1.filter isCode, c.before args0 about1 = true := by
  rw [codes_eq]
  intro c hc
  simp only [codes1, List.mem_cons, List.not_mem_nil, or_false] at hc
  rcases hc with rfl | rfl
  · exact w_c0
  · exact w_c1
set_option maxRecDepth 65536 in
theorem w_t1 : words1.all (fun c => isCode c || c.before args0 about1) = true := by decide +kernel
theorem w_tables : (allAtoms (Jvm.Cond.code x code maxLocals ret :: tables_1)).before args0 about1 = true := by
  rw [allAtoms_all]
  show words1.all (fun c => c.before args0 about1) = true
  refine all_split ?_ w_codes
  rw [w_t1]
set_option maxRecDepth 65536 in
theorem w_case : (Jvm.Cond.and given_1 narrow_1).before args0 about1 = true := by decide +kernel
theorem w_applies : (headSpec (Jvm.Cond.code x code maxLocals ret :: tables_1) room_1).applies x e0.platform about1 = true :=
  (Spec.applies_iff w_frames).mpr ⟨w_running, w_runnable, w_alone, w_named, w_hears, w_ripe, w_room, w_tables⟩
theorem atStart : AtStart classFile x code maxLocals ret World_1 tables_1 room_1 Calls_1 rest_1 Pre_1 launch0 p0 e0 about1 theMethod args0 below0 :=
  ⟨lists_1, trivial, launch0.admits_env _ _ _, launch0.least_env, fairChoices_fair.cas, fairChoices_fair.clock, w_frames, w_args, w_heap, w_applies, trivial, trivial, w_case⟩
end start1
theorem witness_1 : WitnessClaimed_1 := ⟨start1.p0, start1.e0, start1.about1, start1.theMethod, start1.args0, start1.below0, start1.atStart⟩
end Jvm.Pilot.@@N@@
