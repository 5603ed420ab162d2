import JvmDerived
import JvmDerived.Pilot.@@N@@Statement
import JvmDerived.Pilot.@@N@@Code
set_option linter.unusedVariables false
set_option linter.unusedSimpArgs false
@@BLOCK:NumsL.lean.txt@@
namespace Jvm.Pilot.@@N@@
open Jvm Jvm.ClassFile Sem Op Lib Jvm.Free Jvm.Stand Jvm.LawKit Jvm.RoadKit Bundle Jvm.Pilot.@@N@@.Jvm.D
/-- from the state A the run comes to a return of which Q holds -/
def Go (tb : Tables) (e : Env) (below : List Frame) (s : State) (C S : Nat) (Q : Option Value → Heap → List Loc → Prop) (A : State) : Prop :=
  ∃ s₂ o, Steps tb e below A s₂ ∧ s₂.status = .running ∧ Ended s₂ below o ∧ ∃ v L, o = .returned v ∧ Q v s₂.heap L ∧ FrameEnd s o s₂ L C S
theorem go {tb : Tables} {e : Env} {below : List Frame} {s A B : State} {C S : Nat} {Q : Option Value → Heap → List Loc → Prop} (st : ∀ t, Steps tb e below B t → Steps tb e below A t) (h : Go tb e below s C S Q B) : Go tb e below s C S Q A := by
  obtain ⟨s₂, o, h1, h2⟩ := h
  exact ⟨s₂, o, st _ h1, h2⟩
section Rets
variable {p : Program} {l : Launch} {e : Env} {R : Room} {s : State} {m : MethodId} {args : Array Value} {below : List Frame} {meth : Method} {c : Code} {T : State} {locs : List Loc} {cells slots : Nat} {C S : Nat} {Q : Option Value → Heap → List Loc → Prop} {pc : Nat} {Ls : Array Slot} {rest : List Value}
theorem goRetI (X : Stand p l e R s m args below meth c T locs cells slots) (hx : p.tables.exec = Jvm.exec) {z : Int32} (hret : meth.sig.returnType = some .int) (hlk : meth.locks = false) (hd : decode c.code pc = .ok (.ireturn, 1)) (hQ : Q (some (.int z)) T.heap locs) (hc : cells ≤ C) (hs : slots ≤ S) : Go p.tables e below s C S Q (T.setTop (mkF m pc Ls (.int z :: rest))) := by
  obtain ⟨fs, hr, hrun, hended, hW, hsame⟩ := X.leave (v := some (.int z)) (fun h => by rw [hret] at h; cases h) hlk
  exact ⟨_, _, retOut X hx hret rfl (Or.inl ⟨rfl, Or.inl rfl, z, rfl⟩) hd hr, hrun, hended, _, _, rfl, hQ, ⟨_, rfl⟩, hW, hsame.mono hc hs⟩
theorem goRetN (X : Stand p l e R s m args below meth c T locs cells slots) (hx : p.tables.exec = Jvm.exec) {z : Int32} {t : FieldType} (hret : meth.sig.returnType = some t) (ht : t = .boolean ∨ t = .byte ∨ t = .char ∨ t = .short) (hlk : meth.locks = false) (hd : decode c.code pc = .ok (.ireturn, 1)) (hQ : Q (some (.int (nar t z))) T.heap locs) (hc : cells ≤ C) (hs : slots ≤ S) : Go p.tables e below s C S Q (T.setTop (mkF m pc Ls (.int z :: rest))) := by
  obtain ⟨fs, hr, hrun, hended, hW, hsame⟩ := X.leave (v := some (.int (nar t z))) (fun h => by rw [hret] at h; cases h) hlk
  exact ⟨_, _, retN X hx hret ht hd hr, hrun, hended, _, _, rfl, hQ, ⟨_, rfl⟩, hW, hsame.mono hc hs⟩
theorem goRetL (X : Stand p l e R s m args below meth c T locs cells slots) (hx : p.tables.exec = Jvm.exec) {z : Int64} (hret : meth.sig.returnType = some .long) (hlk : meth.locks = false) (hd : decode c.code pc = .ok (.lreturn, 1)) (hQ : Q (some (.long z)) T.heap locs) (hc : cells ≤ C) (hs : slots ≤ S) : Go p.tables e below s C S Q (T.setTop (mkF m pc Ls (.long z :: rest))) := by
  obtain ⟨fs, hr, hrun, hended, hW, hsame⟩ := X.leave (v := some (.long z)) (fun h => by rw [hret] at h; cases h) hlk
  exact ⟨_, _, retOut X hx hret rfl (Or.inr (Or.inl ⟨rfl, rfl, z, rfl⟩)) hd hr, hrun, hended, _, _, rfl, hQ, ⟨_, rfl⟩, hW, hsame.mono hc hs⟩
theorem goRetR (X : Stand p l e R s m args below meth c T locs cells slots) (hx : p.tables.exec = Jvm.exec) {a : Addr} {t : FieldType} (hret : meth.sig.returnType = some t) (ht : t.isReference = true) (hlk : meth.locks = false) (hd : decode c.code pc = .ok (.areturn, 1)) (hQ : Q (some (.ref a)) T.heap locs) (hc : cells ≤ C) (hs : slots ≤ S) : Go p.tables e below s C S Q (T.setTop (mkF m pc Ls (.ref a :: rest))) := by
  obtain ⟨fs, hr, hrun, hended, hW, hsame⟩ := X.leave (v := some (.ref a)) (fun h => by rw [hret] at h; cases h) hlk
  exact ⟨_, _, retOut X hx hret (by cases t <;> first | rfl | cases ht) (Or.inr (Or.inr (Or.inr (Or.inr ⟨rfl, ht, rfl⟩)))) hd hr, hrun, hended, _, _, rfl, hQ, ⟨_, rfl⟩, hW, hsame.mono hc hs⟩
theorem goRetV (X : Stand p l e R s m args below meth c T locs cells slots) (hx : p.tables.exec = Jvm.exec) (hret : meth.sig.returnType = none) (hlk : meth.locks = false) (hd : decode c.code pc = .ok (.return_, 1)) (hQ : Q none T.heap locs) (hc : cells ≤ C) (hs : slots ≤ S) : Go p.tables e below s C S Q (T.setTop (mkF m pc Ls [])) := by
  obtain ⟨fs, hr, hrun, hended, hW, hsame⟩ := X.leave (v := none) (fun _ => rfl) hlk
  exact ⟨_, _, X.returnOut hx hret hd hr, hrun, hended, _, _, rfl, hQ, ⟨_, rfl⟩, hW, hsame.mono hc hs⟩
end Rets
theorem lc_lt_yes {x y : Int64} (h : x < y) : ifCond.holds .lt (lcmpW x y) = true := by
  have h1 : ¬ y < x := by rw [Int64.lt_iff_toInt_lt] at h ⊢; omega
  have h2 : ¬ x = y := fun q => by subst q; rw [Int64.lt_iff_toInt_lt] at h; omega
  simp [lcmpW, h1, h2]; decide
theorem lc_lt_no {x y : Int64} (h : ¬ x < y) : ifCond.holds .lt (lcmpW x y) = false := by
  by_cases h1 : y < x
  · simp [lcmpW, h1]; decide
  · have h2 : x = y := by rw [← Int64.toInt_inj]; rw [Int64.lt_iff_toInt_lt] at h h1; omega
    simp [lcmpW, h1, h2]; decide
theorem lc_ge_no {x y : Int64} (h : x < y) : ifCond.holds .ge (lcmpW x y) = false := by
  have h1 : ¬ y < x := by rw [Int64.lt_iff_toInt_lt] at h ⊢; omega
  have h2 : ¬ x = y := fun q => by subst q; rw [Int64.lt_iff_toInt_lt] at h; omega
  simp [lcmpW, h1, h2]; decide
theorem lc_ge_yes {x y : Int64} (h : ¬ x < y) : ifCond.holds .ge (lcmpW x y) = true := by
  by_cases h1 : y < x
  · simp [lcmpW, h1]; decide
  · have h2 : x = y := by rw [← Int64.toInt_inj]; rw [Int64.lt_iff_toInt_lt] at h h1; omega
    simp [lcmpW, h1, h2]; decide
theorem lc_gt_yes {x y : Int64} (h : y < x) : ifCond.holds .gt (lcmpW x y) = true := by
  simp [lcmpW, h]; decide
theorem lc_gt_no {x y : Int64} (h : ¬ y < x) : ifCond.holds .gt (lcmpW x y) = false := by
  by_cases h2 : x = y <;> simp [lcmpW, h, h2] <;> decide
theorem lc_le_no {x y : Int64} (h : y < x) : ifCond.holds .le (lcmpW x y) = false := by
  simp [lcmpW, h]; decide
theorem lc_le_yes {x y : Int64} (h : ¬ y < x) : ifCond.holds .le (lcmpW x y) = true := by
  by_cases h2 : x = y <;> simp [lcmpW, h, h2] <;> decide
theorem lc_eq_yes {x y : Int64} (h : x = y) : ifCond.holds .eq (lcmpW x y) = true := by
  subst h; simp [lcmpW]; decide
theorem lc_eq_no {x y : Int64} (h : ¬ x = y) : ifCond.holds .eq (lcmpW x y) = false := by
  by_cases h1 : y < x <;> simp [lcmpW, h, h1] <;> decide
theorem lc_ne_no {x y : Int64} (h : x = y) : ifCond.holds .ne (lcmpW x y) = false := by
  subst h; simp [lcmpW]; decide
theorem lc_ne_yes {x y : Int64} (h : ¬ x = y) : ifCond.holds .ne (lcmpW x y) = true := by
  by_cases h1 : y < x <;> simp [lcmpW, h, h1] <;> decide
def fHo (xL : Int64) (loL : Int64) (hiL : Int64) : Int32 := if loL.toInt ≤ xL.toInt ∧ xL.toInt ≤ hiL.toInt then 1 else 0
theorem fHo_one {xL : Int64} {loL : Int64} {hiL : Int64} (h : loL.toInt ≤ xL.toInt ∧ xL.toInt ≤ hiL.toInt) : fHo xL loL hiL = 1 := if_pos h
theorem fHo_zero {xL : Int64} {loL : Int64} {hiL : Int64} (h : ¬ (loL.toInt ≤ xL.toInt ∧ xL.toInt ≤ hiL.toInt)) : fHo xL loL hiL = 0 := if_neg h
theorem fHo_int (xL : Int64) (loL : Int64) (hiL : Int64) : ((fHo xL loL hiL).toInt = 1 ∧ (loL.toInt ≤ xL.toInt ∧ xL.toInt ≤ hiL.toInt)) ∨ ((fHo xL loL hiL).toInt = 0 ∧ ¬ (loL.toInt ≤ xL.toInt ∧ xL.toInt ≤ hiL.toInt)) := by
  by_cases h : loL.toInt ≤ xL.toInt ∧ xL.toInt ≤ hiL.toInt
  · exact Or.inl ⟨by rw [fHo_one h]; rfl, h⟩
  · exact Or.inr ⟨by rw [fHo_zero h]; rfl, h⟩
theorem bm (x : Int) (m : Nat) : (x.bmod m = x % m ∧ x % m < ((m : Int) + 1) / 2) ∨ (x.bmod m = x % m - m ∧ ¬ x % m < ((m : Int) + 1) / 2) := by
  rw [Int.bmod_def]
  by_cases h : x % m < ((m : Int) + 1) / 2
  · rw [if_pos h]; exact Or.inl ⟨rfl, h⟩
  · rw [if_neg h]; exact Or.inr ⟨rfl, h⟩
theorem nar8 (x : Int64) : ((x.toInt32.toInt8.toInt32.toInt64).toInt = x.toInt % 256 ∧ x.toInt % 256 < 128) ∨ ((x.toInt32.toInt8.toInt32.toInt64).toInt = x.toInt % 256 - 256 ∧ ¬ x.toInt % 256 < 128) := by
  have e : (x.toInt32.toInt8.toInt32.toInt64).toInt = x.toInt.bmod (2 ^ 8) := by
    rw [Jvm.Kit.i64_of_i32, Int8.toInt_toInt32, Int32.toInt_toInt8, Int64.toInt_toInt32, Int.bmod_bmod_of_dvd (by decide)]
  have := bm x.toInt (2 ^ 8)
  rw [e]; omega
theorem nar16 (x : Int64) : ((x.toInt32.toInt16.toInt32.toInt64).toInt = x.toInt % 65536 ∧ x.toInt % 65536 < 32768) ∨ ((x.toInt32.toInt16.toInt32.toInt64).toInt = x.toInt % 65536 - 65536 ∧ ¬ x.toInt % 65536 < 32768) := by
  have e : (x.toInt32.toInt16.toInt32.toInt64).toInt = x.toInt.bmod (2 ^ 16) := by
    rw [Jvm.Kit.i64_of_i32, Int16.toInt_toInt32, Int32.toInt_toInt16, Int64.toInt_toInt32, Int.bmod_bmod_of_dvd (by decide)]
  have := bm x.toInt (2 ^ 16)
  rw [e]; omega
theorem nar32 (x : Int64) : ((x.toInt32.toInt64).toInt = x.toInt % 4294967296 ∧ x.toInt % 4294967296 < 2147483648) ∨ ((x.toInt32.toInt64).toInt = x.toInt % 4294967296 - 4294967296 ∧ ¬ x.toInt % 4294967296 < 2147483648) := by
  have e : (x.toInt32.toInt64).toInt = x.toInt.bmod (2 ^ 32) := by
    rw [Jvm.Kit.i64_of_i32, Int64.toInt_toInt32]
  have := bm x.toInt (2 ^ 32)
  rw [e]; omega
theorem pn_com_example_predicant_predicant_jpa_IntegerWidth : plainName "com/example/predicant/predicant/jpa/IntegerWidth" = true := by first | (simp [plainName, overriddenIn]; done) | decide +kernel
theorem ef_rm1 (m : MethodId) (a1 : Addr) (q2 : Int64) : entryFrame m #[(.ref a1), (.long q2)] 3 = mkF m 0 #[.val (.ref a1), .val (.long q2), .second] [] := by first | (simp [entryFrame, mkF, argsToLocals, Value.category]; done) | rfl
def Q1 (Z : State) (a1 : Addr) (q2 : Int64) (lo : Int64) (hi : Int64) (h0 : Heap) (n0 : Nat) (v : Option Value) (h : Heap) (L : List Loc) : Prop := v = some (.int (fHo q2 lo hi)) ∧ Fr n0 L ∧ h = h0
theorem d1_0 : decode prog_52_method_6_code 0 = .ok (.lload_n 1, 1) := by decide +kernel
theorem d1_1 : decode prog_52_method_6_code 1 = .ok (.aload_n 0, 1) := by decide +kernel
theorem d1_2 : decode prog_52_method_6_code 2 = .ok (.getfield 42, 3) := by decide +kernel
theorem d1_5 : decode prog_52_method_6_code 5 = .ok (.lcmp, 1) := by decide +kernel
theorem d1_6 : decode prog_52_method_6_code 6 = .ok (.ifCond .lt 16, 3) := by decide +kernel
theorem d1_22 : decode prog_52_method_6_code 22 = .ok (.iconst 0, 1) := by decide +kernel
theorem d1_23 : decode prog_52_method_6_code 23 = .ok (.ireturn, 1) := by decide +kernel
theorem d1_9 : decode prog_52_method_6_code 9 = .ok (.lload_n 1, 1) := by decide +kernel
theorem d1_10 : decode prog_52_method_6_code 10 = .ok (.aload_n 0, 1) := by decide +kernel
theorem d1_11 : decode prog_52_method_6_code 11 = .ok (.getfield 46, 3) := by decide +kernel
theorem d1_14 : decode prog_52_method_6_code 14 = .ok (.lcmp, 1) := by decide +kernel
theorem d1_15 : decode prog_52_method_6_code 15 = .ok (.ifCond .gt 7, 3) := by decide +kernel
theorem d1_18 : decode prog_52_method_6_code 18 = .ok (.iconst 1, 1) := by decide +kernel
theorem d1_19 : decode prog_52_method_6_code 19 = .ok (.goto 4, 3) := by decide +kernel
set_option maxRecDepth 65536 in
set_option maxHeartbeats 40000000 in
theorem rm1 (l : Launch) (Z : State) (a0 : Array Value) (hw : ∀ d ∈ tables_1, d.before a0 Z = true) (ws : List Jvm.Cond) (a1 : Addr) (q2 : Int64) (lo : Int64) (hi : Int64) (h0 : Heap) (n0 : Nat) (Z0 : n0 ≤ h0.size) (F_lo : Fld Z h0 a1 "com/example/predicant/predicant/jpa/IntegerWidth" "mLeast" "J" (.long lo)) (F_hi : Fld Z h0 a1 "com/example/predicant/predicant/jpa/IntegerWidth" "mGreatest" "J" (.long hi)) :
    MetFree l (⟨"com/example/predicant/predicant/jpa/IntegerWidth", "holds", "(J)Z"⟩ : MethodName) (head1 (Jvm.Cond.code (⟨"com/example/predicant/predicant/jpa/IntegerWidth", "holds", "(J)Z"⟩ : MethodName) prog_52_method_6_code 3 (some .boolean) :: ws) ({ frames := 0, cells := 0, slots := 0, locals := 0 } : Room)) (fun a U => a = #[(.ref a1), (.long q2)] ∧ Z.Warmed39 U.vm ∧ U.heap = h0) (fun _ _ _ _ _ => True) (fun _ U o U' => ∃ v L, o = .returned v ∧ Q1 Z a1 q2 lo hi h0 n0 v U'.heap L ∧ FrameEnd U o U' L ({ frames := 0, cells := 0, slots := 0, locals := 0 } : Room).cells ({ frames := 0, cells := 0, slots := 0, locals := 0 } : Room).slots) := by
  refine MetFree.of_bodySF (plainFor_of_name pn_com_example_predicant_predicant_jpa_IntegerWidth) hisR ?_
  intro p e s m args below meth c s₁ Bd hml0 hP hK
  obtain ⟨rfl, hZ, hh⟩ := hP
  have hx := Bd.exec
  have hby := Bd.bytes
  have hml : c.maxLocals = 3 := hml0
  have hown : s.vm.findClass "com/example/predicant/predicant/jpa/IntegerWidth" = some m.cls := findClass_of_methodNamed Bd.named
  have hnm := (name_of_methodNamed Bd.named Bd.method).1
  have hlk := Bd.notSynchronized
  have X0 : Stand p l e ({ frames := 0, cells := 0, slots := 0, locals := 0 } : Room) s m #[(.ref a1), (.long q2)] below meth c s₁ [] 0 0 := Stand.of_body Bd
  have e0 : s₁.heap = h0 := by rw [← hh, Bd.state]; rfl
  have N0 := Fr.nil n0
  show Go p.tables e below s ({ frames := 0, cells := 0, slots := 0, locals := 0 } : Room).cells ({ frames := 0, cells := 0, slots := 0, locals := 0 } : Room).slots (Q1 Z a1 q2 lo hi h0 n0) _
  refine go (fun t k => castTop (ef_rm1 m a1 q2) k) ?_
  refine go (B := s₁.setTop (mkF m 1 #[.val (.ref a1), .val (.long q2), .second] [(.long q2)])) (fun _ k => XS.lloadN X0.here hx rfl (hb hby d1_0) rfl k) ?_
  refine go (B := s₁.setTop (mkF m 2 #[.val (.ref a1), .val (.long q2), .second] [(.ref a1), (.long q2)])) (fun _ k => XS.aloadN X0.here hx rfl (hb hby d1_1) rfl rfl k) ?_
  obtain ⟨T1, X1, e1, st1⟩ := getF X0 hx hZ hown (host := "") (Or.inl (hw _ (List.mem_of_getElem? (i := 8) rfl))) Via.refl e0 F_lo (g := (mkF m 2 #[.val (.ref a1), .val (.long q2), .second] [(.ref a1), (.long q2)])) rfl rfl (hb hby d1_2)
  refine go (B := T1.setTop (mkF m 5 #[.val (.ref a1), .val (.long q2), .second] [(.long lo), (.long q2)])) (fun _ k => st1 _ k) ?_
  refine go (B := T1.setTop (mkF m 6 #[.val (.ref a1), .val (.long q2), .second] [(.int (lcmpW q2 lo))])) (fun _ k => XS.lcmp X1.here hx rfl (hb hby d1_5) rfl k) ?_
  by_cases hc6 : q2 < lo
  · refine go (B := T1.setTop (mkF m 22 #[.val (.ref a1), .val (.long q2), .second] [])) (fun _ k => XS.ifYes X1.here hx rfl (pc0 := 6) (pc' := 22) rfl (hb hby d1_6) rfl (lc_lt_yes hc6) (by decide) (by decide) k) ?_
    refine go (B := T1.setTop (mkF m 23 #[.val (.ref a1), .val (.long q2), .second] [(.int (0 : Int32))])) (fun _ k => XS.iconst X1.here hx rfl (hb hby d1_22) k) ?_
    refine goRetN X1 hx (t := .boolean) Bd.returns (by simp) hlk (hb hby d1_23) ?_ (by decide) (by decide)
    rw [e1]
    have q : fHo q2 lo hi = (0 : Int32) := fHo_zero (by simp only [Int32.lt_iff_toInt_lt, Int64.lt_iff_toInt_lt, ← Int32.toInt_inj, ← Int64.toInt_inj, Int32.reduceToInt, Int64.reduceToInt] at hc6; omega)
    exact ⟨by rw [q]; rfl, N0, rfl⟩
  · refine go (B := T1.setTop (mkF m 9 #[.val (.ref a1), .val (.long q2), .second] [])) (fun _ k => XS.ifNo X1.here hx rfl (hb hby d1_6) rfl (lc_lt_no hc6) k) ?_
    refine go (B := T1.setTop (mkF m 10 #[.val (.ref a1), .val (.long q2), .second] [(.long q2)])) (fun _ k => XS.lloadN X1.here hx rfl (hb hby d1_9) rfl k) ?_
    refine go (B := T1.setTop (mkF m 11 #[.val (.ref a1), .val (.long q2), .second] [(.ref a1), (.long q2)])) (fun _ k => XS.aloadN X1.here hx rfl (hb hby d1_10) rfl rfl k) ?_
    obtain ⟨T2, X2, e2, st2⟩ := getF X1 hx hZ hown (host := "") (Or.inl (hw _ (List.mem_of_getElem? (i := 10) rfl))) Via.refl e1 F_hi (g := (mkF m 11 #[.val (.ref a1), .val (.long q2), .second] [(.ref a1), (.long q2)])) rfl rfl (hb hby d1_11)
    refine go (B := T2.setTop (mkF m 14 #[.val (.ref a1), .val (.long q2), .second] [(.long hi), (.long q2)])) (fun _ k => st2 _ k) ?_
    refine go (B := T2.setTop (mkF m 15 #[.val (.ref a1), .val (.long q2), .second] [(.int (lcmpW q2 hi))])) (fun _ k => XS.lcmp X2.here hx rfl (hb hby d1_14) rfl k) ?_
    by_cases hc15 : hi < q2
    · refine go (B := T2.setTop (mkF m 22 #[.val (.ref a1), .val (.long q2), .second] [])) (fun _ k => XS.ifYes X2.here hx rfl (pc0 := 15) (pc' := 22) rfl (hb hby d1_15) rfl (lc_gt_yes hc15) (by decide) (by decide) k) ?_
      refine go (B := T2.setTop (mkF m 23 #[.val (.ref a1), .val (.long q2), .second] [(.int (0 : Int32))])) (fun _ k => XS.iconst X2.here hx rfl (hb hby d1_22) k) ?_
      refine goRetN X2 hx (t := .boolean) Bd.returns (by simp) hlk (hb hby d1_23) ?_ (by decide) (by decide)
      rw [e2]
      have q : fHo q2 lo hi = (0 : Int32) := fHo_zero (by simp only [Int32.lt_iff_toInt_lt, Int64.lt_iff_toInt_lt, ← Int32.toInt_inj, ← Int64.toInt_inj, Int32.reduceToInt, Int64.reduceToInt] at hc6 hc15; omega)
      exact ⟨by rw [q]; rfl, N0, rfl⟩
    · refine go (B := T2.setTop (mkF m 18 #[.val (.ref a1), .val (.long q2), .second] [])) (fun _ k => XS.ifNo X2.here hx rfl (hb hby d1_15) rfl (lc_gt_no hc15) k) ?_
      refine go (B := T2.setTop (mkF m 19 #[.val (.ref a1), .val (.long q2), .second] [(.int (1 : Int32))])) (fun _ k => XS.iconst X2.here hx rfl (hb hby d1_18) k) ?_
      refine go (B := T2.setTop (mkF m 23 #[.val (.ref a1), .val (.long q2), .second] [(.int (1 : Int32))])) (fun _ k => XS.goto X2.here hx rfl (pc0 := 19) (pc' := 23) rfl (hb hby d1_19) (by decide) (by decide) k) ?_
      refine goRetN X2 hx (t := .boolean) Bd.returns (by simp) hlk (hb hby d1_23) ?_ (by decide) (by decide)
      rw [e2]
      have q : fHo q2 lo hi = (1 : Int32) := fHo_one (by simp only [Int32.lt_iff_toInt_lt, Int64.lt_iff_toInt_lt, ← Int32.toInt_inj, ← Int64.toInt_inj, Int32.reduceToInt, Int64.reduceToInt] at hc6 hc15; omega)
      exact ⟨by rw [q]; rfl, N0, rfl⟩
theorem pn_com_example_predicant_predicant_jpa_IntegerWidthHoldsPinLaw : plainName "com/example/predicant/predicant/jpa/IntegerWidthHoldsPinLaw" = true := by first | (simp [plainName, overriddenIn]; done) | decide +kernel
theorem ef_rm0 (m : MethodId) (p1 : Int32) (q2 : Int64) : entryFrame m #[(.int p1), (.long q2)] maxLocals = mkF m 0 #[.val (.int p1), .val (.long q2), .second, .unset, .unset, .unset] [] := by first | (simp [entryFrame, mkF, argsToLocals, Value.category, maxLocals]; done) | rfl
def Q0 (Z : State) (p1 : Int32) (q2 : Int64) (a_BYTE : Addr) (a_SHORT : Addr) (a_INT : Addr) (a_LONG : Addr) (h0 : Heap) (n0 : Nat) (v : Option Value) (h : Heap) (L : List Loc) : Prop := v = some (.int 1) ∧ Fr n0 L
theorem pd__J_Z : parseMethodDescriptor "(J)Z" = some ⟨[.long], some .boolean⟩ := by decide +kernel
set_option maxRecDepth 65536 in
set_option maxHeartbeats 40000000 in
theorem rm0 (l : Launch) (Z : State) (a0 : Array Value) (hw : ∀ d ∈ tables_1, d.before a0 Z = true) (ws : List Jvm.Cond) (p1 : Int32) (q2 : Int64) (a_BYTE : Addr) (a_SHORT : Addr) (a_INT : Addr) (a_LONG : Addr) (h0 : Heap) (n0 : Nat) (Z0 : n0 ≤ h0.size) (S_BYTE : Sta Z h0 "com/example/predicant/predicant/jpa/IntegerWidth" "BYTE" "Lcom/example/predicant/predicant/jpa/IntegerWidth;" (.ref a_BYTE)) (E_BYTE : Exa Z h0 a_BYTE "com/example/predicant/predicant/jpa/IntegerWidth") (F_mLeast_BYTE : Fld Z h0 a_BYTE "com/example/predicant/predicant/jpa/IntegerWidth" "mLeast" "J" (.long (-128 : Int64))) (F_mGreatest_BYTE : Fld Z h0 a_BYTE "com/example/predicant/predicant/jpa/IntegerWidth" "mGreatest" "J" (.long (127 : Int64))) (S_SHORT : Sta Z h0 "com/example/predicant/predicant/jpa/IntegerWidth" "SHORT" "Lcom/example/predicant/predicant/jpa/IntegerWidth;" (.ref a_SHORT)) (E_SHORT : Exa Z h0 a_SHORT "com/example/predicant/predicant/jpa/IntegerWidth") (F_mLeast_SHORT : Fld Z h0 a_SHORT "com/example/predicant/predicant/jpa/IntegerWidth" "mLeast" "J" (.long (-32768 : Int64))) (F_mGreatest_SHORT : Fld Z h0 a_SHORT "com/example/predicant/predicant/jpa/IntegerWidth" "mGreatest" "J" (.long (32767 : Int64))) (S_INT : Sta Z h0 "com/example/predicant/predicant/jpa/IntegerWidth" "INT" "Lcom/example/predicant/predicant/jpa/IntegerWidth;" (.ref a_INT)) (E_INT : Exa Z h0 a_INT "com/example/predicant/predicant/jpa/IntegerWidth") (F_mLeast_INT : Fld Z h0 a_INT "com/example/predicant/predicant/jpa/IntegerWidth" "mLeast" "J" (.long (-2147483648 : Int64))) (F_mGreatest_INT : Fld Z h0 a_INT "com/example/predicant/predicant/jpa/IntegerWidth" "mGreatest" "J" (.long (2147483647 : Int64))) (S_LONG : Sta Z h0 "com/example/predicant/predicant/jpa/IntegerWidth" "LONG" "Lcom/example/predicant/predicant/jpa/IntegerWidth;" (.ref a_LONG)) (E_LONG : Exa Z h0 a_LONG "com/example/predicant/predicant/jpa/IntegerWidth") (F_mLeast_LONG : Fld Z h0 a_LONG "com/example/predicant/predicant/jpa/IntegerWidth" "mLeast" "J" (.long (-9223372036854775808 : Int64))) (F_mGreatest_LONG : Fld Z h0 a_LONG "com/example/predicant/predicant/jpa/IntegerWidth" "mGreatest" "J" (.long (9223372036854775807 : Int64))) :
    MetFree l x (head1 (Jvm.Cond.code x code maxLocals ret :: ws) room_1) (fun a U => a = #[(.int p1), (.long q2)] ∧ Z.Warmed39 U.vm ∧ U.heap = h0) (fun _ _ _ _ _ => True) (fun _ U o U' => ∃ v L, o = .returned v ∧ Q0 Z p1 q2 a_BYTE a_SHORT a_INT a_LONG h0 n0 v U'.heap L ∧ FrameEnd U o U' L room_1.cells room_1.slots) := by
  refine MetFree.of_bodySF (plainFor_of_name pn_com_example_predicant_predicant_jpa_IntegerWidthHoldsPinLaw) hisR ?_
  intro p e s m args below meth c s₁ Bd hml0 hP hK
  obtain ⟨rfl, hZ, hh⟩ := hP
  have hx := Bd.exec
  have hby := Bd.bytes
  have hml : c.maxLocals = 6 := hml0
  have hown : s.vm.findClass "com/example/predicant/predicant/jpa/IntegerWidthHoldsPinLaw" = some m.cls := findClass_of_methodNamed Bd.named
  have hnm := (name_of_methodNamed Bd.named Bd.method).1
  have hlk := Bd.notSynchronized
  have X0 : Stand p l e room_1 s m #[(.int p1), (.long q2)] below meth c s₁ [] 0 0 := Stand.of_body Bd
  have e0 : s₁.heap = h0 := by rw [← hh, Bd.state]; rfl
  have N0 := Fr.nil n0
  show Go p.tables e below s room_1.cells room_1.slots (Q0 Z p1 q2 a_BYTE a_SHORT a_INT a_LONG h0 n0) _
  refine go (fun t k => castTop (ef_rm0 m p1 q2) k) ?_
  refine go (B := s₁.setTop (mkF m 1 #[.val (.int p1), .val (.long q2), .second, .unset, .unset, .unset] [(.int p1)])) (fun _ k => XS.iloadN X0.here hx rfl (hb hby at_0) rfl k) ?_
  refine go (B := s₁.setTop (mkF m 2 #[.val (.int p1), .val (.long q2), .second, .unset, .unset, .unset] [(.int (3 : Int32)), (.int p1)])) (fun _ k => XS.iconst X0.here hx rfl (hb hby at_1) k) ?_
  refine go (B := s₁.setTop (mkF m 3 #[.val (.int p1), .val (.long q2), .second, .unset, .unset, .unset] [(.int (p1 &&& (3 : Int32)))])) (fun _ k => XS.iand X0.here hx rfl (hb hby at_2) rfl k) ?_
  refine go (B := s₁.setTop (mkF m 4 #[.val (.int p1), .val (.long q2), .second, .val (.int (p1 &&& (3 : Int32))), .unset, .unset] [])) (fun _ k => XS.istoreN X0.here hx rfl (hb hby at_3) rfl (l' := #[.val (.int p1), .val (.long q2), .second, .val (.int (p1 &&& (3 : Int32))), .unset, .unset]) rfl k) ?_
  refine go (B := s₁.setTop (mkF m 5 #[.val (.int p1), .val (.long q2), .second, .val (.int (p1 &&& (3 : Int32))), .unset, .unset] [(.int (p1 &&& (3 : Int32)))])) (fun _ k => XS.iloadN X0.here hx rfl (hb hby at_4) rfl k) ?_
  by_cases hc5 : (p1 &&& (3 : Int32)) = (0 : Int32)
  · refine go (B := s₁.setTop (mkF m 8 #[.val (.int p1), .val (.long q2), .second, .val (.int (p1 &&& (3 : Int32))), .unset, .unset] [])) (fun _ k => XS.ifNo X0.here hx rfl (hb hby at_5) rfl ((if0 _ _).trans (teq hc5).2) k) ?_
    obtain ⟨T1, X1, e1, st1⟩ := getS2 X0 hx hZ hown (host := "") (Or.inl (hw _ (List.mem_of_getElem? (i := 0) rfl))) Via.refl e0 S_BYTE (g := (mkF m 8 #[.val (.int p1), .val (.long q2), .second, .val (.int (p1 &&& (3 : Int32))), .unset, .unset] [])) rfl (hb hby at_8)
    refine go (B := T1.setTop (mkF m 11 #[.val (.int p1), .val (.long q2), .second, .val (.int (p1 &&& (3 : Int32))), .unset, .unset] [(.ref a_BYTE)])) (fun _ k => st1 _ k) ?_
    refine go (B := T1.setTop (mkF m 13 #[.val (.int p1), .val (.long q2), .second, .val (.int (p1 &&& (3 : Int32))), .val (.ref a_BYTE), .unset] [])) (fun _ k => XS.astore X1.here hx rfl (hb hby at_11) rfl rfl (l' := #[.val (.int p1), .val (.long q2), .second, .val (.int (p1 &&& (3 : Int32))), .val (.ref a_BYTE), .unset]) rfl k) ?_
    refine go (B := T1.setTop (mkF m 14 #[.val (.int p1), .val (.long q2), .second, .val (.int (p1 &&& (3 : Int32))), .val (.ref a_BYTE), .unset] [(.long q2)])) (fun _ k => XS.lloadN X1.here hx rfl (hb hby at_13) rfl k) ?_
    refine go (B := T1.setTop (mkF m 15 #[.val (.int p1), .val (.long q2), .second, .val (.int (p1 &&& (3 : Int32))), .val (.ref a_BYTE), .unset] [(.int (q2.toInt32))])) (fun _ k => XS.l2i X1.here hx rfl (hb hby at_14) rfl k) ?_
    refine go (B := T1.setTop (mkF m 16 #[.val (.int p1), .val (.long q2), .second, .val (.int (p1 &&& (3 : Int32))), .val (.ref a_BYTE), .unset] [(.int ((q2.toInt32).toInt8.toInt32))])) (fun _ k => XS.i2b X1.here hx rfl (hb hby at_15) rfl k) ?_
    refine go (B := T1.setTop (mkF m 17 #[.val (.int p1), .val (.long q2), .second, .val (.int (p1 &&& (3 : Int32))), .val (.ref a_BYTE), .unset] [(.long (((q2.toInt32).toInt8.toInt32).toInt64))])) (fun _ k => XS.i2l X1.here hx rfl (hb hby at_16) rfl k) ?_
    refine go (B := T1.setTop (mkF m 18 #[.val (.int p1), .val (.long q2), .second, .val (.int (p1 &&& (3 : Int32))), .val (.ref a_BYTE), .unset] [(.long q2), (.long (((q2.toInt32).toInt8.toInt32).toInt64))])) (fun _ k => XS.lloadN X1.here hx rfl (hb hby at_17) rfl k) ?_
    refine go (B := T1.setTop (mkF m 19 #[.val (.int p1), .val (.long q2), .second, .val (.int (p1 &&& (3 : Int32))), .val (.ref a_BYTE), .unset] [(.int (lcmpW (((q2.toInt32).toInt8.toInt32).toInt64) q2))])) (fun _ k => XS.lcmp X1.here hx rfl (hb hby at_18) rfl k) ?_
    by_cases hc19 : (((q2.toInt32).toInt8.toInt32).toInt64) = q2
    · refine go (B := T1.setTop (mkF m 22 #[.val (.int p1), .val (.long q2), .second, .val (.int (p1 &&& (3 : Int32))), .val (.ref a_BYTE), .unset] [])) (fun _ k => XS.ifNo X1.here hx rfl (hb hby at_19) rfl (lc_ne_no hc19) k) ?_
      refine go (B := T1.setTop (mkF m 23 #[.val (.int p1), .val (.long q2), .second, .val (.int (p1 &&& (3 : Int32))), .val (.ref a_BYTE), .unset] [(.int (1 : Int32))])) (fun _ k => XS.iconst X1.here hx rfl (hb hby at_22) k) ?_
      refine go (B := T1.setTop (mkF m 27 #[.val (.int p1), .val (.long q2), .second, .val (.int (p1 &&& (3 : Int32))), .val (.ref a_BYTE), .unset] [(.int (1 : Int32))])) (fun _ k => XS.goto X1.here hx rfl (pc0 := 23) (pc' := 27) rfl (hb hby at_23) (by decide) (by decide) k) ?_
      refine go (B := T1.setTop (mkF m 29 #[.val (.int p1), .val (.long q2), .second, .val (.int (p1 &&& (3 : Int32))), .val (.ref a_BYTE), .val (.int (1 : Int32))] [])) (fun _ k => XS.istore X1.here hx rfl (hb hby at_27) rfl (l' := #[.val (.int p1), .val (.long q2), .second, .val (.int (p1 &&& (3 : Int32))), .val (.ref a_BYTE), .val (.int (1 : Int32))]) rfl k) ?_
      refine go (B := T1.setTop (mkF m 97 #[.val (.int p1), .val (.long q2), .second, .val (.int (p1 &&& (3 : Int32))), .val (.ref a_BYTE), .val (.int (1 : Int32))] [])) (fun _ k => XS.goto X1.here hx rfl (pc0 := 29) (pc' := 97) rfl (hb hby at_29) (by decide) (by decide) k) ?_
      refine go (B := T1.setTop (mkF m 99 #[.val (.int p1), .val (.long q2), .second, .val (.int (p1 &&& (3 : Int32))), .val (.ref a_BYTE), .val (.int (1 : Int32))] [(.ref a_BYTE)])) (fun _ k => XS.aload X1.here hx rfl (hb hby at_97) rfl rfl k) ?_
      refine go (B := T1.setTop (mkF m 100 #[.val (.int p1), .val (.long q2), .second, .val (.int (p1 &&& (3 : Int32))), .val (.ref a_BYTE), .val (.int (1 : Int32))] [(.long q2), (.ref a_BYTE)])) (fun _ k => XS.lloadN X1.here hx rfl (hb hby at_99) rfl k) ?_
      obtain ⟨cq2, kq2, q2a, q2b, q2c⟩ := isOf hZ e1 E_BYTE
      obtain ⟨_, _, ⟨T2, L2, k2, n2⟩, -, X2, ⟨Lc2, hQ2, l2, y2, z2⟩, st2⟩ := X1.virtualBack hx (y := (⟨"com/example/predicant/predicant/jpa/IntegerWidth", "holds", "(J)Z"⟩ : MethodName)) (z := (⟨"com/example/predicant/predicant/jpa/IntegerWidth", "holds", "(J)Z"⟩ : MethodName)) hown (mvT hZ (hw _ (List.mem_of_getElem? (i := 3) rfl))) (mvT hZ (hw _ (List.mem_of_getElem? (i := 4) rfl))) (notFace_of_selects (args := #[]) (mvT hZ (hw _ (List.mem_of_getElem? (i := 6) rfl)))) (mvT hZ (hw _ (List.mem_of_getElem? (i := 6) rfl))) (mvT hZ (hw _ (List.mem_of_getElem? (i := 5) rfl))) (by decide) (backOf (W := 0) (rm1 l Z a0 hw [] a_BYTE q2 (-128 : Int64) (127 : Int64) h0 n0 Z0 F_mLeast_BYTE F_mGreatest_BYTE) hZ (hw _ (List.mem_of_getElem? (i := 7) rfl)) (hw _ (List.mem_of_getElem? (i := 1) rfl)) (by decide) (by decide)) q2a q2c (g := (mkF m 100 #[.val (.int p1), .val (.long q2), .second, .val (.int (p1 &&& (3 : Int32))), .val (.ref a_BYTE), .val (.int (1 : Int32))] [(.long q2), (.ref a_BYTE)])) rfl (by rw [hml]; rfl) (Steps.refl _) (argsL := [(.long q2)]) (rest := []) (lenOf pd__J_Z rfl) rfl (by show 2 * 0 + _ ≤ _; exact Nat.le_of_eq rfl) (hb hby at_100) (fun _ _ => ⟨rfl, e1, (by decide : 0 + 0 ≤ _), (by decide : 0 + 0 ≤ _)⟩)
      dsimp only [Pt.U, Pt.locs, Pt.cells, Pt.slots] at X2 l2 y2 z2 st2 hQ2
      subst l2 y2 z2
      obtain ⟨rfl, N2q, e2⟩ := hQ2
      have N2 := Fr.app N0 N2q
      refine go (B := T2.setTop (mkF m 103 #[.val (.int p1), .val (.long q2), .second, .val (.int (p1 &&& (3 : Int32))), .val (.ref a_BYTE), .val (.int (1 : Int32))] [(.int (fHo q2 (-128 : Int64) (127 : Int64)))])) (fun _ k => st2.trans k) ?_
      refine go (B := T2.setTop (mkF m 105 #[.val (.int p1), .val (.long q2), .second, .val (.int (p1 &&& (3 : Int32))), .val (.ref a_BYTE), .val (.int (1 : Int32))] [(.int (1 : Int32)), (.int (fHo q2 (-128 : Int64) (127 : Int64)))])) (fun _ k => XS.iload X2.here hx rfl (hb hby at_103) rfl k) ?_
      by_cases hc105 : (fHo q2 (-128 : Int64) (127 : Int64)) = (1 : Int32)
      · refine go (B := T2.setTop (mkF m 108 #[.val (.int p1), .val (.long q2), .second, .val (.int (p1 &&& (3 : Int32))), .val (.ref a_BYTE), .val (.int (1 : Int32))] [])) (fun _ k => XS.icmpNo X2.here hx rfl (hb hby at_105) rfl (teq hc105).2 k) ?_
        refine go (B := T2.setTop (mkF m 109 #[.val (.int p1), .val (.long q2), .second, .val (.int (p1 &&& (3 : Int32))), .val (.ref a_BYTE), .val (.int (1 : Int32))] [(.int (1 : Int32))])) (fun _ k => XS.iconst X2.here hx rfl (hb hby at_108) k) ?_
        refine go (B := T2.setTop (mkF m 113 #[.val (.int p1), .val (.long q2), .second, .val (.int (p1 &&& (3 : Int32))), .val (.ref a_BYTE), .val (.int (1 : Int32))] [(.int (1 : Int32))])) (fun _ k => XS.goto X2.here hx rfl (pc0 := 109) (pc' := 113) rfl (hb hby at_109) (by decide) (by decide) k) ?_
        refine goRetN X2 hx (t := .boolean) Bd.returns (by simp) hlk (hb hby at_113) ?_ (by decide) (by decide)
        rw [e2]
        exact ⟨rfl, N2⟩
      · refine go (B := T2.setTop (mkF m 112 #[.val (.int p1), .val (.long q2), .second, .val (.int (p1 &&& (3 : Int32))), .val (.ref a_BYTE), .val (.int (1 : Int32))] [])) (fun _ k => XS.icmpYes X2.here hx rfl (pc0 := 105) (pc' := 112) rfl (hb hby at_105) rfl (feq hc105).2 (by decide) (by decide) k) ?_
        refine go (B := T2.setTop (mkF m 113 #[.val (.int p1), .val (.long q2), .second, .val (.int (p1 &&& (3 : Int32))), .val (.ref a_BYTE), .val (.int (1 : Int32))] [(.int (0 : Int32))])) (fun _ k => XS.iconst X2.here hx rfl (hb hby at_112) k) ?_
        refine goRetN X2 hx (t := .boolean) Bd.returns (by simp) hlk (hb hby at_113) ?_ (by decide) (by decide)
        rw [e2]
        exfalso
        have q := fHo_int q2 (-128 : Int64) (127 : Int64)
        have b := nar8 q2
        have r1 := q2.toInt_lt
        have r2 := q2.le_toInt
        have l1 : ((-128 : Int64) : Int64).toInt = -128 := by decide
        have l2 : ((127 : Int64) : Int64).toInt = 127 := by decide
        rw [l1, l2] at q
        simp only [Int32.lt_iff_toInt_lt, Int64.lt_iff_toInt_lt, ← Int32.toInt_inj, ← Int64.toInt_inj, Int32.reduceToInt, Int64.reduceToInt] at hc19 hc105
        omega
    · refine go (B := T1.setTop (mkF m 26 #[.val (.int p1), .val (.long q2), .second, .val (.int (p1 &&& (3 : Int32))), .val (.ref a_BYTE), .unset] [])) (fun _ k => XS.ifYes X1.here hx rfl (pc0 := 19) (pc' := 26) rfl (hb hby at_19) rfl (lc_ne_yes hc19) (by decide) (by decide) k) ?_
      refine go (B := T1.setTop (mkF m 27 #[.val (.int p1), .val (.long q2), .second, .val (.int (p1 &&& (3 : Int32))), .val (.ref a_BYTE), .unset] [(.int (0 : Int32))])) (fun _ k => XS.iconst X1.here hx rfl (hb hby at_26) k) ?_
      refine go (B := T1.setTop (mkF m 29 #[.val (.int p1), .val (.long q2), .second, .val (.int (p1 &&& (3 : Int32))), .val (.ref a_BYTE), .val (.int (0 : Int32))] [])) (fun _ k => XS.istore X1.here hx rfl (hb hby at_27) rfl (l' := #[.val (.int p1), .val (.long q2), .second, .val (.int (p1 &&& (3 : Int32))), .val (.ref a_BYTE), .val (.int (0 : Int32))]) rfl k) ?_
      refine go (B := T1.setTop (mkF m 97 #[.val (.int p1), .val (.long q2), .second, .val (.int (p1 &&& (3 : Int32))), .val (.ref a_BYTE), .val (.int (0 : Int32))] [])) (fun _ k => XS.goto X1.here hx rfl (pc0 := 29) (pc' := 97) rfl (hb hby at_29) (by decide) (by decide) k) ?_
      refine go (B := T1.setTop (mkF m 99 #[.val (.int p1), .val (.long q2), .second, .val (.int (p1 &&& (3 : Int32))), .val (.ref a_BYTE), .val (.int (0 : Int32))] [(.ref a_BYTE)])) (fun _ k => XS.aload X1.here hx rfl (hb hby at_97) rfl rfl k) ?_
      refine go (B := T1.setTop (mkF m 100 #[.val (.int p1), .val (.long q2), .second, .val (.int (p1 &&& (3 : Int32))), .val (.ref a_BYTE), .val (.int (0 : Int32))] [(.long q2), (.ref a_BYTE)])) (fun _ k => XS.lloadN X1.here hx rfl (hb hby at_99) rfl k) ?_
      obtain ⟨cq3, kq3, q3a, q3b, q3c⟩ := isOf hZ e1 E_BYTE
      obtain ⟨_, _, ⟨T3, L3, k3, n3⟩, -, X3, ⟨Lc3, hQ3, l3, y3, z3⟩, st3⟩ := X1.virtualBack hx (y := (⟨"com/example/predicant/predicant/jpa/IntegerWidth", "holds", "(J)Z"⟩ : MethodName)) (z := (⟨"com/example/predicant/predicant/jpa/IntegerWidth", "holds", "(J)Z"⟩ : MethodName)) hown (mvT hZ (hw _ (List.mem_of_getElem? (i := 3) rfl))) (mvT hZ (hw _ (List.mem_of_getElem? (i := 4) rfl))) (notFace_of_selects (args := #[]) (mvT hZ (hw _ (List.mem_of_getElem? (i := 6) rfl)))) (mvT hZ (hw _ (List.mem_of_getElem? (i := 6) rfl))) (mvT hZ (hw _ (List.mem_of_getElem? (i := 5) rfl))) (by decide) (backOf (W := 0) (rm1 l Z a0 hw [] a_BYTE q2 (-128 : Int64) (127 : Int64) h0 n0 Z0 F_mLeast_BYTE F_mGreatest_BYTE) hZ (hw _ (List.mem_of_getElem? (i := 7) rfl)) (hw _ (List.mem_of_getElem? (i := 1) rfl)) (by decide) (by decide)) q3a q3c (g := (mkF m 100 #[.val (.int p1), .val (.long q2), .second, .val (.int (p1 &&& (3 : Int32))), .val (.ref a_BYTE), .val (.int (0 : Int32))] [(.long q2), (.ref a_BYTE)])) rfl (by rw [hml]; rfl) (Steps.refl _) (argsL := [(.long q2)]) (rest := []) (lenOf pd__J_Z rfl) rfl (by show 2 * 0 + _ ≤ _; exact Nat.le_of_eq rfl) (hb hby at_100) (fun _ _ => ⟨rfl, e1, (by decide : 0 + 0 ≤ _), (by decide : 0 + 0 ≤ _)⟩)
      dsimp only [Pt.U, Pt.locs, Pt.cells, Pt.slots] at X3 l3 y3 z3 st3 hQ3
      subst l3 y3 z3
      obtain ⟨rfl, N3q, e3⟩ := hQ3
      have N3 := Fr.app N0 N3q
      refine go (B := T3.setTop (mkF m 103 #[.val (.int p1), .val (.long q2), .second, .val (.int (p1 &&& (3 : Int32))), .val (.ref a_BYTE), .val (.int (0 : Int32))] [(.int (fHo q2 (-128 : Int64) (127 : Int64)))])) (fun _ k => st3.trans k) ?_
      refine go (B := T3.setTop (mkF m 105 #[.val (.int p1), .val (.long q2), .second, .val (.int (p1 &&& (3 : Int32))), .val (.ref a_BYTE), .val (.int (0 : Int32))] [(.int (0 : Int32)), (.int (fHo q2 (-128 : Int64) (127 : Int64)))])) (fun _ k => XS.iload X3.here hx rfl (hb hby at_103) rfl k) ?_
      by_cases hc105 : (fHo q2 (-128 : Int64) (127 : Int64)) = (0 : Int32)
      · refine go (B := T3.setTop (mkF m 108 #[.val (.int p1), .val (.long q2), .second, .val (.int (p1 &&& (3 : Int32))), .val (.ref a_BYTE), .val (.int (0 : Int32))] [])) (fun _ k => XS.icmpNo X3.here hx rfl (hb hby at_105) rfl (teq hc105).2 k) ?_
        refine go (B := T3.setTop (mkF m 109 #[.val (.int p1), .val (.long q2), .second, .val (.int (p1 &&& (3 : Int32))), .val (.ref a_BYTE), .val (.int (0 : Int32))] [(.int (1 : Int32))])) (fun _ k => XS.iconst X3.here hx rfl (hb hby at_108) k) ?_
        refine go (B := T3.setTop (mkF m 113 #[.val (.int p1), .val (.long q2), .second, .val (.int (p1 &&& (3 : Int32))), .val (.ref a_BYTE), .val (.int (0 : Int32))] [(.int (1 : Int32))])) (fun _ k => XS.goto X3.here hx rfl (pc0 := 109) (pc' := 113) rfl (hb hby at_109) (by decide) (by decide) k) ?_
        refine goRetN X3 hx (t := .boolean) Bd.returns (by simp) hlk (hb hby at_113) ?_ (by decide) (by decide)
        rw [e3]
        exact ⟨rfl, N3⟩
      · refine go (B := T3.setTop (mkF m 112 #[.val (.int p1), .val (.long q2), .second, .val (.int (p1 &&& (3 : Int32))), .val (.ref a_BYTE), .val (.int (0 : Int32))] [])) (fun _ k => XS.icmpYes X3.here hx rfl (pc0 := 105) (pc' := 112) rfl (hb hby at_105) rfl (feq hc105).2 (by decide) (by decide) k) ?_
        refine go (B := T3.setTop (mkF m 113 #[.val (.int p1), .val (.long q2), .second, .val (.int (p1 &&& (3 : Int32))), .val (.ref a_BYTE), .val (.int (0 : Int32))] [(.int (0 : Int32))])) (fun _ k => XS.iconst X3.here hx rfl (hb hby at_112) k) ?_
        refine goRetN X3 hx (t := .boolean) Bd.returns (by simp) hlk (hb hby at_113) ?_ (by decide) (by decide)
        rw [e3]
        exfalso
        have q := fHo_int q2 (-128 : Int64) (127 : Int64)
        have b := nar8 q2
        have r1 := q2.toInt_lt
        have r2 := q2.le_toInt
        have l1 : ((-128 : Int64) : Int64).toInt = -128 := by decide
        have l2 : ((127 : Int64) : Int64).toInt = 127 := by decide
        rw [l1, l2] at q
        simp only [Int32.lt_iff_toInt_lt, Int64.lt_iff_toInt_lt, ← Int32.toInt_inj, ← Int64.toInt_inj, Int32.reduceToInt, Int64.reduceToInt] at hc19 hc105
        omega
  · refine go (B := s₁.setTop (mkF m 32 #[.val (.int p1), .val (.long q2), .second, .val (.int (p1 &&& (3 : Int32))), .unset, .unset] [])) (fun _ k => XS.ifYes X0.here hx rfl (pc0 := 5) (pc' := 32) rfl (hb hby at_5) rfl ((if0 _ _).trans (feq hc5).2) (by decide) (by decide) k) ?_
    refine go (B := s₁.setTop (mkF m 33 #[.val (.int p1), .val (.long q2), .second, .val (.int (p1 &&& (3 : Int32))), .unset, .unset] [(.int (p1 &&& (3 : Int32)))])) (fun _ k => XS.iloadN X0.here hx rfl (hb hby at_32) rfl k) ?_
    refine go (B := s₁.setTop (mkF m 34 #[.val (.int p1), .val (.long q2), .second, .val (.int (p1 &&& (3 : Int32))), .unset, .unset] [(.int (1 : Int32)), (.int (p1 &&& (3 : Int32)))])) (fun _ k => XS.iconst X0.here hx rfl (hb hby at_33) k) ?_
    by_cases hc34 : (p1 &&& (3 : Int32)) = (1 : Int32)
    · refine go (B := s₁.setTop (mkF m 37 #[.val (.int p1), .val (.long q2), .second, .val (.int (p1 &&& (3 : Int32))), .unset, .unset] [])) (fun _ k => XS.icmpNo X0.here hx rfl (hb hby at_34) rfl (teq hc34).2 k) ?_
      obtain ⟨T4, X4, e4, st4⟩ := getS2 X0 hx hZ hown (host := "") (Or.inl (hw _ (List.mem_of_getElem? (i := 12) rfl))) Via.refl e0 S_SHORT (g := (mkF m 37 #[.val (.int p1), .val (.long q2), .second, .val (.int (p1 &&& (3 : Int32))), .unset, .unset] [])) rfl (hb hby at_37)
      refine go (B := T4.setTop (mkF m 40 #[.val (.int p1), .val (.long q2), .second, .val (.int (p1 &&& (3 : Int32))), .unset, .unset] [(.ref a_SHORT)])) (fun _ k => st4 _ k) ?_
      refine go (B := T4.setTop (mkF m 42 #[.val (.int p1), .val (.long q2), .second, .val (.int (p1 &&& (3 : Int32))), .val (.ref a_SHORT), .unset] [])) (fun _ k => XS.astore X4.here hx rfl (hb hby at_40) rfl rfl (l' := #[.val (.int p1), .val (.long q2), .second, .val (.int (p1 &&& (3 : Int32))), .val (.ref a_SHORT), .unset]) rfl k) ?_
      refine go (B := T4.setTop (mkF m 43 #[.val (.int p1), .val (.long q2), .second, .val (.int (p1 &&& (3 : Int32))), .val (.ref a_SHORT), .unset] [(.long q2)])) (fun _ k => XS.lloadN X4.here hx rfl (hb hby at_42) rfl k) ?_
      refine go (B := T4.setTop (mkF m 44 #[.val (.int p1), .val (.long q2), .second, .val (.int (p1 &&& (3 : Int32))), .val (.ref a_SHORT), .unset] [(.int (q2.toInt32))])) (fun _ k => XS.l2i X4.here hx rfl (hb hby at_43) rfl k) ?_
      refine go (B := T4.setTop (mkF m 45 #[.val (.int p1), .val (.long q2), .second, .val (.int (p1 &&& (3 : Int32))), .val (.ref a_SHORT), .unset] [(.int ((q2.toInt32).toInt16.toInt32))])) (fun _ k => XS.i2s X4.here hx rfl (hb hby at_44) rfl k) ?_
      refine go (B := T4.setTop (mkF m 46 #[.val (.int p1), .val (.long q2), .second, .val (.int (p1 &&& (3 : Int32))), .val (.ref a_SHORT), .unset] [(.long (((q2.toInt32).toInt16.toInt32).toInt64))])) (fun _ k => XS.i2l X4.here hx rfl (hb hby at_45) rfl k) ?_
      refine go (B := T4.setTop (mkF m 47 #[.val (.int p1), .val (.long q2), .second, .val (.int (p1 &&& (3 : Int32))), .val (.ref a_SHORT), .unset] [(.long q2), (.long (((q2.toInt32).toInt16.toInt32).toInt64))])) (fun _ k => XS.lloadN X4.here hx rfl (hb hby at_46) rfl k) ?_
      refine go (B := T4.setTop (mkF m 48 #[.val (.int p1), .val (.long q2), .second, .val (.int (p1 &&& (3 : Int32))), .val (.ref a_SHORT), .unset] [(.int (lcmpW (((q2.toInt32).toInt16.toInt32).toInt64) q2))])) (fun _ k => XS.lcmp X4.here hx rfl (hb hby at_47) rfl k) ?_
      by_cases hc48 : (((q2.toInt32).toInt16.toInt32).toInt64) = q2
      · refine go (B := T4.setTop (mkF m 51 #[.val (.int p1), .val (.long q2), .second, .val (.int (p1 &&& (3 : Int32))), .val (.ref a_SHORT), .unset] [])) (fun _ k => XS.ifNo X4.here hx rfl (hb hby at_48) rfl (lc_ne_no hc48) k) ?_
        refine go (B := T4.setTop (mkF m 52 #[.val (.int p1), .val (.long q2), .second, .val (.int (p1 &&& (3 : Int32))), .val (.ref a_SHORT), .unset] [(.int (1 : Int32))])) (fun _ k => XS.iconst X4.here hx rfl (hb hby at_51) k) ?_
        refine go (B := T4.setTop (mkF m 56 #[.val (.int p1), .val (.long q2), .second, .val (.int (p1 &&& (3 : Int32))), .val (.ref a_SHORT), .unset] [(.int (1 : Int32))])) (fun _ k => XS.goto X4.here hx rfl (pc0 := 52) (pc' := 56) rfl (hb hby at_52) (by decide) (by decide) k) ?_
        refine go (B := T4.setTop (mkF m 58 #[.val (.int p1), .val (.long q2), .second, .val (.int (p1 &&& (3 : Int32))), .val (.ref a_SHORT), .val (.int (1 : Int32))] [])) (fun _ k => XS.istore X4.here hx rfl (hb hby at_56) rfl (l' := #[.val (.int p1), .val (.long q2), .second, .val (.int (p1 &&& (3 : Int32))), .val (.ref a_SHORT), .val (.int (1 : Int32))]) rfl k) ?_
        refine go (B := T4.setTop (mkF m 97 #[.val (.int p1), .val (.long q2), .second, .val (.int (p1 &&& (3 : Int32))), .val (.ref a_SHORT), .val (.int (1 : Int32))] [])) (fun _ k => XS.goto X4.here hx rfl (pc0 := 58) (pc' := 97) rfl (hb hby at_58) (by decide) (by decide) k) ?_
        refine go (B := T4.setTop (mkF m 99 #[.val (.int p1), .val (.long q2), .second, .val (.int (p1 &&& (3 : Int32))), .val (.ref a_SHORT), .val (.int (1 : Int32))] [(.ref a_SHORT)])) (fun _ k => XS.aload X4.here hx rfl (hb hby at_97) rfl rfl k) ?_
        refine go (B := T4.setTop (mkF m 100 #[.val (.int p1), .val (.long q2), .second, .val (.int (p1 &&& (3 : Int32))), .val (.ref a_SHORT), .val (.int (1 : Int32))] [(.long q2), (.ref a_SHORT)])) (fun _ k => XS.lloadN X4.here hx rfl (hb hby at_99) rfl k) ?_
        obtain ⟨cq5, kq5, q5a, q5b, q5c⟩ := isOf hZ e4 E_SHORT
        obtain ⟨_, _, ⟨T5, L5, k5, n5⟩, -, X5, ⟨Lc5, hQ5, l5, y5, z5⟩, st5⟩ := X4.virtualBack hx (y := (⟨"com/example/predicant/predicant/jpa/IntegerWidth", "holds", "(J)Z"⟩ : MethodName)) (z := (⟨"com/example/predicant/predicant/jpa/IntegerWidth", "holds", "(J)Z"⟩ : MethodName)) hown (mvT hZ (hw _ (List.mem_of_getElem? (i := 3) rfl))) (mvT hZ (hw _ (List.mem_of_getElem? (i := 4) rfl))) (notFace_of_selects (args := #[]) (mvT hZ (hw _ (List.mem_of_getElem? (i := 6) rfl)))) (mvT hZ (hw _ (List.mem_of_getElem? (i := 6) rfl))) (mvT hZ (hw _ (List.mem_of_getElem? (i := 5) rfl))) (by decide) (backOf (W := 0) (rm1 l Z a0 hw [] a_SHORT q2 (-32768 : Int64) (32767 : Int64) h0 n0 Z0 F_mLeast_SHORT F_mGreatest_SHORT) hZ (hw _ (List.mem_of_getElem? (i := 7) rfl)) (hw _ (List.mem_of_getElem? (i := 1) rfl)) (by decide) (by decide)) q5a q5c (g := (mkF m 100 #[.val (.int p1), .val (.long q2), .second, .val (.int (p1 &&& (3 : Int32))), .val (.ref a_SHORT), .val (.int (1 : Int32))] [(.long q2), (.ref a_SHORT)])) rfl (by rw [hml]; rfl) (Steps.refl _) (argsL := [(.long q2)]) (rest := []) (lenOf pd__J_Z rfl) rfl (by show 2 * 0 + _ ≤ _; exact Nat.le_of_eq rfl) (hb hby at_100) (fun _ _ => ⟨rfl, e4, (by decide : 0 + 0 ≤ _), (by decide : 0 + 0 ≤ _)⟩)
        dsimp only [Pt.U, Pt.locs, Pt.cells, Pt.slots] at X5 l5 y5 z5 st5 hQ5
        subst l5 y5 z5
        obtain ⟨rfl, N5q, e5⟩ := hQ5
        have N5 := Fr.app N0 N5q
        refine go (B := T5.setTop (mkF m 103 #[.val (.int p1), .val (.long q2), .second, .val (.int (p1 &&& (3 : Int32))), .val (.ref a_SHORT), .val (.int (1 : Int32))] [(.int (fHo q2 (-32768 : Int64) (32767 : Int64)))])) (fun _ k => st5.trans k) ?_
        refine go (B := T5.setTop (mkF m 105 #[.val (.int p1), .val (.long q2), .second, .val (.int (p1 &&& (3 : Int32))), .val (.ref a_SHORT), .val (.int (1 : Int32))] [(.int (1 : Int32)), (.int (fHo q2 (-32768 : Int64) (32767 : Int64)))])) (fun _ k => XS.iload X5.here hx rfl (hb hby at_103) rfl k) ?_
        by_cases hc105 : (fHo q2 (-32768 : Int64) (32767 : Int64)) = (1 : Int32)
        · refine go (B := T5.setTop (mkF m 108 #[.val (.int p1), .val (.long q2), .second, .val (.int (p1 &&& (3 : Int32))), .val (.ref a_SHORT), .val (.int (1 : Int32))] [])) (fun _ k => XS.icmpNo X5.here hx rfl (hb hby at_105) rfl (teq hc105).2 k) ?_
          refine go (B := T5.setTop (mkF m 109 #[.val (.int p1), .val (.long q2), .second, .val (.int (p1 &&& (3 : Int32))), .val (.ref a_SHORT), .val (.int (1 : Int32))] [(.int (1 : Int32))])) (fun _ k => XS.iconst X5.here hx rfl (hb hby at_108) k) ?_
          refine go (B := T5.setTop (mkF m 113 #[.val (.int p1), .val (.long q2), .second, .val (.int (p1 &&& (3 : Int32))), .val (.ref a_SHORT), .val (.int (1 : Int32))] [(.int (1 : Int32))])) (fun _ k => XS.goto X5.here hx rfl (pc0 := 109) (pc' := 113) rfl (hb hby at_109) (by decide) (by decide) k) ?_
          refine goRetN X5 hx (t := .boolean) Bd.returns (by simp) hlk (hb hby at_113) ?_ (by decide) (by decide)
          rw [e5]
          exact ⟨rfl, N5⟩
        · refine go (B := T5.setTop (mkF m 112 #[.val (.int p1), .val (.long q2), .second, .val (.int (p1 &&& (3 : Int32))), .val (.ref a_SHORT), .val (.int (1 : Int32))] [])) (fun _ k => XS.icmpYes X5.here hx rfl (pc0 := 105) (pc' := 112) rfl (hb hby at_105) rfl (feq hc105).2 (by decide) (by decide) k) ?_
          refine go (B := T5.setTop (mkF m 113 #[.val (.int p1), .val (.long q2), .second, .val (.int (p1 &&& (3 : Int32))), .val (.ref a_SHORT), .val (.int (1 : Int32))] [(.int (0 : Int32))])) (fun _ k => XS.iconst X5.here hx rfl (hb hby at_112) k) ?_
          refine goRetN X5 hx (t := .boolean) Bd.returns (by simp) hlk (hb hby at_113) ?_ (by decide) (by decide)
          rw [e5]
          exfalso
          have q := fHo_int q2 (-32768 : Int64) (32767 : Int64)
          have b := nar16 q2
          have r1 := q2.toInt_lt
          have r2 := q2.le_toInt
          have l1 : ((-32768 : Int64) : Int64).toInt = -32768 := by decide
          have l2 : ((32767 : Int64) : Int64).toInt = 32767 := by decide
          rw [l1, l2] at q
          simp only [Int32.lt_iff_toInt_lt, Int64.lt_iff_toInt_lt, ← Int32.toInt_inj, ← Int64.toInt_inj, Int32.reduceToInt, Int64.reduceToInt] at hc48 hc105
          omega
      · refine go (B := T4.setTop (mkF m 55 #[.val (.int p1), .val (.long q2), .second, .val (.int (p1 &&& (3 : Int32))), .val (.ref a_SHORT), .unset] [])) (fun _ k => XS.ifYes X4.here hx rfl (pc0 := 48) (pc' := 55) rfl (hb hby at_48) rfl (lc_ne_yes hc48) (by decide) (by decide) k) ?_
        refine go (B := T4.setTop (mkF m 56 #[.val (.int p1), .val (.long q2), .second, .val (.int (p1 &&& (3 : Int32))), .val (.ref a_SHORT), .unset] [(.int (0 : Int32))])) (fun _ k => XS.iconst X4.here hx rfl (hb hby at_55) k) ?_
        refine go (B := T4.setTop (mkF m 58 #[.val (.int p1), .val (.long q2), .second, .val (.int (p1 &&& (3 : Int32))), .val (.ref a_SHORT), .val (.int (0 : Int32))] [])) (fun _ k => XS.istore X4.here hx rfl (hb hby at_56) rfl (l' := #[.val (.int p1), .val (.long q2), .second, .val (.int (p1 &&& (3 : Int32))), .val (.ref a_SHORT), .val (.int (0 : Int32))]) rfl k) ?_
        refine go (B := T4.setTop (mkF m 97 #[.val (.int p1), .val (.long q2), .second, .val (.int (p1 &&& (3 : Int32))), .val (.ref a_SHORT), .val (.int (0 : Int32))] [])) (fun _ k => XS.goto X4.here hx rfl (pc0 := 58) (pc' := 97) rfl (hb hby at_58) (by decide) (by decide) k) ?_
        refine go (B := T4.setTop (mkF m 99 #[.val (.int p1), .val (.long q2), .second, .val (.int (p1 &&& (3 : Int32))), .val (.ref a_SHORT), .val (.int (0 : Int32))] [(.ref a_SHORT)])) (fun _ k => XS.aload X4.here hx rfl (hb hby at_97) rfl rfl k) ?_
        refine go (B := T4.setTop (mkF m 100 #[.val (.int p1), .val (.long q2), .second, .val (.int (p1 &&& (3 : Int32))), .val (.ref a_SHORT), .val (.int (0 : Int32))] [(.long q2), (.ref a_SHORT)])) (fun _ k => XS.lloadN X4.here hx rfl (hb hby at_99) rfl k) ?_
        obtain ⟨cq6, kq6, q6a, q6b, q6c⟩ := isOf hZ e4 E_SHORT
        obtain ⟨_, _, ⟨T6, L6, k6, n6⟩, -, X6, ⟨Lc6, hQ6, l6, y6, z6⟩, st6⟩ := X4.virtualBack hx (y := (⟨"com/example/predicant/predicant/jpa/IntegerWidth", "holds", "(J)Z"⟩ : MethodName)) (z := (⟨"com/example/predicant/predicant/jpa/IntegerWidth", "holds", "(J)Z"⟩ : MethodName)) hown (mvT hZ (hw _ (List.mem_of_getElem? (i := 3) rfl))) (mvT hZ (hw _ (List.mem_of_getElem? (i := 4) rfl))) (notFace_of_selects (args := #[]) (mvT hZ (hw _ (List.mem_of_getElem? (i := 6) rfl)))) (mvT hZ (hw _ (List.mem_of_getElem? (i := 6) rfl))) (mvT hZ (hw _ (List.mem_of_getElem? (i := 5) rfl))) (by decide) (backOf (W := 0) (rm1 l Z a0 hw [] a_SHORT q2 (-32768 : Int64) (32767 : Int64) h0 n0 Z0 F_mLeast_SHORT F_mGreatest_SHORT) hZ (hw _ (List.mem_of_getElem? (i := 7) rfl)) (hw _ (List.mem_of_getElem? (i := 1) rfl)) (by decide) (by decide)) q6a q6c (g := (mkF m 100 #[.val (.int p1), .val (.long q2), .second, .val (.int (p1 &&& (3 : Int32))), .val (.ref a_SHORT), .val (.int (0 : Int32))] [(.long q2), (.ref a_SHORT)])) rfl (by rw [hml]; rfl) (Steps.refl _) (argsL := [(.long q2)]) (rest := []) (lenOf pd__J_Z rfl) rfl (by show 2 * 0 + _ ≤ _; exact Nat.le_of_eq rfl) (hb hby at_100) (fun _ _ => ⟨rfl, e4, (by decide : 0 + 0 ≤ _), (by decide : 0 + 0 ≤ _)⟩)
        dsimp only [Pt.U, Pt.locs, Pt.cells, Pt.slots] at X6 l6 y6 z6 st6 hQ6
        subst l6 y6 z6
        obtain ⟨rfl, N6q, e6⟩ := hQ6
        have N6 := Fr.app N0 N6q
        refine go (B := T6.setTop (mkF m 103 #[.val (.int p1), .val (.long q2), .second, .val (.int (p1 &&& (3 : Int32))), .val (.ref a_SHORT), .val (.int (0 : Int32))] [(.int (fHo q2 (-32768 : Int64) (32767 : Int64)))])) (fun _ k => st6.trans k) ?_
        refine go (B := T6.setTop (mkF m 105 #[.val (.int p1), .val (.long q2), .second, .val (.int (p1 &&& (3 : Int32))), .val (.ref a_SHORT), .val (.int (0 : Int32))] [(.int (0 : Int32)), (.int (fHo q2 (-32768 : Int64) (32767 : Int64)))])) (fun _ k => XS.iload X6.here hx rfl (hb hby at_103) rfl k) ?_
        by_cases hc105 : (fHo q2 (-32768 : Int64) (32767 : Int64)) = (0 : Int32)
        · refine go (B := T6.setTop (mkF m 108 #[.val (.int p1), .val (.long q2), .second, .val (.int (p1 &&& (3 : Int32))), .val (.ref a_SHORT), .val (.int (0 : Int32))] [])) (fun _ k => XS.icmpNo X6.here hx rfl (hb hby at_105) rfl (teq hc105).2 k) ?_
          refine go (B := T6.setTop (mkF m 109 #[.val (.int p1), .val (.long q2), .second, .val (.int (p1 &&& (3 : Int32))), .val (.ref a_SHORT), .val (.int (0 : Int32))] [(.int (1 : Int32))])) (fun _ k => XS.iconst X6.here hx rfl (hb hby at_108) k) ?_
          refine go (B := T6.setTop (mkF m 113 #[.val (.int p1), .val (.long q2), .second, .val (.int (p1 &&& (3 : Int32))), .val (.ref a_SHORT), .val (.int (0 : Int32))] [(.int (1 : Int32))])) (fun _ k => XS.goto X6.here hx rfl (pc0 := 109) (pc' := 113) rfl (hb hby at_109) (by decide) (by decide) k) ?_
          refine goRetN X6 hx (t := .boolean) Bd.returns (by simp) hlk (hb hby at_113) ?_ (by decide) (by decide)
          rw [e6]
          exact ⟨rfl, N6⟩
        · refine go (B := T6.setTop (mkF m 112 #[.val (.int p1), .val (.long q2), .second, .val (.int (p1 &&& (3 : Int32))), .val (.ref a_SHORT), .val (.int (0 : Int32))] [])) (fun _ k => XS.icmpYes X6.here hx rfl (pc0 := 105) (pc' := 112) rfl (hb hby at_105) rfl (feq hc105).2 (by decide) (by decide) k) ?_
          refine go (B := T6.setTop (mkF m 113 #[.val (.int p1), .val (.long q2), .second, .val (.int (p1 &&& (3 : Int32))), .val (.ref a_SHORT), .val (.int (0 : Int32))] [(.int (0 : Int32))])) (fun _ k => XS.iconst X6.here hx rfl (hb hby at_112) k) ?_
          refine goRetN X6 hx (t := .boolean) Bd.returns (by simp) hlk (hb hby at_113) ?_ (by decide) (by decide)
          rw [e6]
          exfalso
          have q := fHo_int q2 (-32768 : Int64) (32767 : Int64)
          have b := nar16 q2
          have r1 := q2.toInt_lt
          have r2 := q2.le_toInt
          have l1 : ((-32768 : Int64) : Int64).toInt = -32768 := by decide
          have l2 : ((32767 : Int64) : Int64).toInt = 32767 := by decide
          rw [l1, l2] at q
          simp only [Int32.lt_iff_toInt_lt, Int64.lt_iff_toInt_lt, ← Int32.toInt_inj, ← Int64.toInt_inj, Int32.reduceToInt, Int64.reduceToInt] at hc48 hc105
          omega
    · refine go (B := s₁.setTop (mkF m 61 #[.val (.int p1), .val (.long q2), .second, .val (.int (p1 &&& (3 : Int32))), .unset, .unset] [])) (fun _ k => XS.icmpYes X0.here hx rfl (pc0 := 34) (pc' := 61) rfl (hb hby at_34) rfl (feq hc34).2 (by decide) (by decide) k) ?_
      refine go (B := s₁.setTop (mkF m 62 #[.val (.int p1), .val (.long q2), .second, .val (.int (p1 &&& (3 : Int32))), .unset, .unset] [(.int (p1 &&& (3 : Int32)))])) (fun _ k => XS.iloadN X0.here hx rfl (hb hby at_61) rfl k) ?_
      refine go (B := s₁.setTop (mkF m 63 #[.val (.int p1), .val (.long q2), .second, .val (.int (p1 &&& (3 : Int32))), .unset, .unset] [(.int (2 : Int32)), (.int (p1 &&& (3 : Int32)))])) (fun _ k => XS.iconst X0.here hx rfl (hb hby at_62) k) ?_
      by_cases hc63 : (p1 &&& (3 : Int32)) = (2 : Int32)
      · refine go (B := s₁.setTop (mkF m 66 #[.val (.int p1), .val (.long q2), .second, .val (.int (p1 &&& (3 : Int32))), .unset, .unset] [])) (fun _ k => XS.icmpNo X0.here hx rfl (hb hby at_63) rfl (teq hc63).2 k) ?_
        obtain ⟨T7, X7, e7, st7⟩ := getS2 X0 hx hZ hown (host := "") (Or.inl (hw _ (List.mem_of_getElem? (i := 14) rfl))) Via.refl e0 S_INT (g := (mkF m 66 #[.val (.int p1), .val (.long q2), .second, .val (.int (p1 &&& (3 : Int32))), .unset, .unset] [])) rfl (hb hby at_66)
        refine go (B := T7.setTop (mkF m 69 #[.val (.int p1), .val (.long q2), .second, .val (.int (p1 &&& (3 : Int32))), .unset, .unset] [(.ref a_INT)])) (fun _ k => st7 _ k) ?_
        refine go (B := T7.setTop (mkF m 71 #[.val (.int p1), .val (.long q2), .second, .val (.int (p1 &&& (3 : Int32))), .val (.ref a_INT), .unset] [])) (fun _ k => XS.astore X7.here hx rfl (hb hby at_69) rfl rfl (l' := #[.val (.int p1), .val (.long q2), .second, .val (.int (p1 &&& (3 : Int32))), .val (.ref a_INT), .unset]) rfl k) ?_
        refine go (B := T7.setTop (mkF m 72 #[.val (.int p1), .val (.long q2), .second, .val (.int (p1 &&& (3 : Int32))), .val (.ref a_INT), .unset] [(.long q2)])) (fun _ k => XS.lloadN X7.here hx rfl (hb hby at_71) rfl k) ?_
        refine go (B := T7.setTop (mkF m 73 #[.val (.int p1), .val (.long q2), .second, .val (.int (p1 &&& (3 : Int32))), .val (.ref a_INT), .unset] [(.int (q2.toInt32))])) (fun _ k => XS.l2i X7.here hx rfl (hb hby at_72) rfl k) ?_
        refine go (B := T7.setTop (mkF m 74 #[.val (.int p1), .val (.long q2), .second, .val (.int (p1 &&& (3 : Int32))), .val (.ref a_INT), .unset] [(.long ((q2.toInt32).toInt64))])) (fun _ k => XS.i2l X7.here hx rfl (hb hby at_73) rfl k) ?_
        refine go (B := T7.setTop (mkF m 75 #[.val (.int p1), .val (.long q2), .second, .val (.int (p1 &&& (3 : Int32))), .val (.ref a_INT), .unset] [(.long q2), (.long ((q2.toInt32).toInt64))])) (fun _ k => XS.lloadN X7.here hx rfl (hb hby at_74) rfl k) ?_
        refine go (B := T7.setTop (mkF m 76 #[.val (.int p1), .val (.long q2), .second, .val (.int (p1 &&& (3 : Int32))), .val (.ref a_INT), .unset] [(.int (lcmpW ((q2.toInt32).toInt64) q2))])) (fun _ k => XS.lcmp X7.here hx rfl (hb hby at_75) rfl k) ?_
        by_cases hc76 : ((q2.toInt32).toInt64) = q2
        · refine go (B := T7.setTop (mkF m 79 #[.val (.int p1), .val (.long q2), .second, .val (.int (p1 &&& (3 : Int32))), .val (.ref a_INT), .unset] [])) (fun _ k => XS.ifNo X7.here hx rfl (hb hby at_76) rfl (lc_ne_no hc76) k) ?_
          refine go (B := T7.setTop (mkF m 80 #[.val (.int p1), .val (.long q2), .second, .val (.int (p1 &&& (3 : Int32))), .val (.ref a_INT), .unset] [(.int (1 : Int32))])) (fun _ k => XS.iconst X7.here hx rfl (hb hby at_79) k) ?_
          refine go (B := T7.setTop (mkF m 84 #[.val (.int p1), .val (.long q2), .second, .val (.int (p1 &&& (3 : Int32))), .val (.ref a_INT), .unset] [(.int (1 : Int32))])) (fun _ k => XS.goto X7.here hx rfl (pc0 := 80) (pc' := 84) rfl (hb hby at_80) (by decide) (by decide) k) ?_
          refine go (B := T7.setTop (mkF m 86 #[.val (.int p1), .val (.long q2), .second, .val (.int (p1 &&& (3 : Int32))), .val (.ref a_INT), .val (.int (1 : Int32))] [])) (fun _ k => XS.istore X7.here hx rfl (hb hby at_84) rfl (l' := #[.val (.int p1), .val (.long q2), .second, .val (.int (p1 &&& (3 : Int32))), .val (.ref a_INT), .val (.int (1 : Int32))]) rfl k) ?_
          refine go (B := T7.setTop (mkF m 97 #[.val (.int p1), .val (.long q2), .second, .val (.int (p1 &&& (3 : Int32))), .val (.ref a_INT), .val (.int (1 : Int32))] [])) (fun _ k => XS.goto X7.here hx rfl (pc0 := 86) (pc' := 97) rfl (hb hby at_86) (by decide) (by decide) k) ?_
          refine go (B := T7.setTop (mkF m 99 #[.val (.int p1), .val (.long q2), .second, .val (.int (p1 &&& (3 : Int32))), .val (.ref a_INT), .val (.int (1 : Int32))] [(.ref a_INT)])) (fun _ k => XS.aload X7.here hx rfl (hb hby at_97) rfl rfl k) ?_
          refine go (B := T7.setTop (mkF m 100 #[.val (.int p1), .val (.long q2), .second, .val (.int (p1 &&& (3 : Int32))), .val (.ref a_INT), .val (.int (1 : Int32))] [(.long q2), (.ref a_INT)])) (fun _ k => XS.lloadN X7.here hx rfl (hb hby at_99) rfl k) ?_
          obtain ⟨cq8, kq8, q8a, q8b, q8c⟩ := isOf hZ e7 E_INT
          obtain ⟨_, _, ⟨T8, L8, k8, n8⟩, -, X8, ⟨Lc8, hQ8, l8, y8, z8⟩, st8⟩ := X7.virtualBack hx (y := (⟨"com/example/predicant/predicant/jpa/IntegerWidth", "holds", "(J)Z"⟩ : MethodName)) (z := (⟨"com/example/predicant/predicant/jpa/IntegerWidth", "holds", "(J)Z"⟩ : MethodName)) hown (mvT hZ (hw _ (List.mem_of_getElem? (i := 3) rfl))) (mvT hZ (hw _ (List.mem_of_getElem? (i := 4) rfl))) (notFace_of_selects (args := #[]) (mvT hZ (hw _ (List.mem_of_getElem? (i := 6) rfl)))) (mvT hZ (hw _ (List.mem_of_getElem? (i := 6) rfl))) (mvT hZ (hw _ (List.mem_of_getElem? (i := 5) rfl))) (by decide) (backOf (W := 0) (rm1 l Z a0 hw [] a_INT q2 (-2147483648 : Int64) (2147483647 : Int64) h0 n0 Z0 F_mLeast_INT F_mGreatest_INT) hZ (hw _ (List.mem_of_getElem? (i := 7) rfl)) (hw _ (List.mem_of_getElem? (i := 1) rfl)) (by decide) (by decide)) q8a q8c (g := (mkF m 100 #[.val (.int p1), .val (.long q2), .second, .val (.int (p1 &&& (3 : Int32))), .val (.ref a_INT), .val (.int (1 : Int32))] [(.long q2), (.ref a_INT)])) rfl (by rw [hml]; rfl) (Steps.refl _) (argsL := [(.long q2)]) (rest := []) (lenOf pd__J_Z rfl) rfl (by show 2 * 0 + _ ≤ _; exact Nat.le_of_eq rfl) (hb hby at_100) (fun _ _ => ⟨rfl, e7, (by decide : 0 + 0 ≤ _), (by decide : 0 + 0 ≤ _)⟩)
          dsimp only [Pt.U, Pt.locs, Pt.cells, Pt.slots] at X8 l8 y8 z8 st8 hQ8
          subst l8 y8 z8
          obtain ⟨rfl, N8q, e8⟩ := hQ8
          have N8 := Fr.app N0 N8q
          refine go (B := T8.setTop (mkF m 103 #[.val (.int p1), .val (.long q2), .second, .val (.int (p1 &&& (3 : Int32))), .val (.ref a_INT), .val (.int (1 : Int32))] [(.int (fHo q2 (-2147483648 : Int64) (2147483647 : Int64)))])) (fun _ k => st8.trans k) ?_
          refine go (B := T8.setTop (mkF m 105 #[.val (.int p1), .val (.long q2), .second, .val (.int (p1 &&& (3 : Int32))), .val (.ref a_INT), .val (.int (1 : Int32))] [(.int (1 : Int32)), (.int (fHo q2 (-2147483648 : Int64) (2147483647 : Int64)))])) (fun _ k => XS.iload X8.here hx rfl (hb hby at_103) rfl k) ?_
          by_cases hc105 : (fHo q2 (-2147483648 : Int64) (2147483647 : Int64)) = (1 : Int32)
          · refine go (B := T8.setTop (mkF m 108 #[.val (.int p1), .val (.long q2), .second, .val (.int (p1 &&& (3 : Int32))), .val (.ref a_INT), .val (.int (1 : Int32))] [])) (fun _ k => XS.icmpNo X8.here hx rfl (hb hby at_105) rfl (teq hc105).2 k) ?_
            refine go (B := T8.setTop (mkF m 109 #[.val (.int p1), .val (.long q2), .second, .val (.int (p1 &&& (3 : Int32))), .val (.ref a_INT), .val (.int (1 : Int32))] [(.int (1 : Int32))])) (fun _ k => XS.iconst X8.here hx rfl (hb hby at_108) k) ?_
            refine go (B := T8.setTop (mkF m 113 #[.val (.int p1), .val (.long q2), .second, .val (.int (p1 &&& (3 : Int32))), .val (.ref a_INT), .val (.int (1 : Int32))] [(.int (1 : Int32))])) (fun _ k => XS.goto X8.here hx rfl (pc0 := 109) (pc' := 113) rfl (hb hby at_109) (by decide) (by decide) k) ?_
            refine goRetN X8 hx (t := .boolean) Bd.returns (by simp) hlk (hb hby at_113) ?_ (by decide) (by decide)
            rw [e8]
            exact ⟨rfl, N8⟩
          · refine go (B := T8.setTop (mkF m 112 #[.val (.int p1), .val (.long q2), .second, .val (.int (p1 &&& (3 : Int32))), .val (.ref a_INT), .val (.int (1 : Int32))] [])) (fun _ k => XS.icmpYes X8.here hx rfl (pc0 := 105) (pc' := 112) rfl (hb hby at_105) rfl (feq hc105).2 (by decide) (by decide) k) ?_
            refine go (B := T8.setTop (mkF m 113 #[.val (.int p1), .val (.long q2), .second, .val (.int (p1 &&& (3 : Int32))), .val (.ref a_INT), .val (.int (1 : Int32))] [(.int (0 : Int32))])) (fun _ k => XS.iconst X8.here hx rfl (hb hby at_112) k) ?_
            refine goRetN X8 hx (t := .boolean) Bd.returns (by simp) hlk (hb hby at_113) ?_ (by decide) (by decide)
            rw [e8]
            exfalso
            have q := fHo_int q2 (-2147483648 : Int64) (2147483647 : Int64)
            have b := nar32 q2
            have r1 := q2.toInt_lt
            have r2 := q2.le_toInt
            have l1 : ((-2147483648 : Int64) : Int64).toInt = -2147483648 := by decide
            have l2 : ((2147483647 : Int64) : Int64).toInt = 2147483647 := by decide
            rw [l1, l2] at q
            simp only [Int32.lt_iff_toInt_lt, Int64.lt_iff_toInt_lt, ← Int32.toInt_inj, ← Int64.toInt_inj, Int32.reduceToInt, Int64.reduceToInt] at hc76 hc105
            omega
        · refine go (B := T7.setTop (mkF m 83 #[.val (.int p1), .val (.long q2), .second, .val (.int (p1 &&& (3 : Int32))), .val (.ref a_INT), .unset] [])) (fun _ k => XS.ifYes X7.here hx rfl (pc0 := 76) (pc' := 83) rfl (hb hby at_76) rfl (lc_ne_yes hc76) (by decide) (by decide) k) ?_
          refine go (B := T7.setTop (mkF m 84 #[.val (.int p1), .val (.long q2), .second, .val (.int (p1 &&& (3 : Int32))), .val (.ref a_INT), .unset] [(.int (0 : Int32))])) (fun _ k => XS.iconst X7.here hx rfl (hb hby at_83) k) ?_
          refine go (B := T7.setTop (mkF m 86 #[.val (.int p1), .val (.long q2), .second, .val (.int (p1 &&& (3 : Int32))), .val (.ref a_INT), .val (.int (0 : Int32))] [])) (fun _ k => XS.istore X7.here hx rfl (hb hby at_84) rfl (l' := #[.val (.int p1), .val (.long q2), .second, .val (.int (p1 &&& (3 : Int32))), .val (.ref a_INT), .val (.int (0 : Int32))]) rfl k) ?_
          refine go (B := T7.setTop (mkF m 97 #[.val (.int p1), .val (.long q2), .second, .val (.int (p1 &&& (3 : Int32))), .val (.ref a_INT), .val (.int (0 : Int32))] [])) (fun _ k => XS.goto X7.here hx rfl (pc0 := 86) (pc' := 97) rfl (hb hby at_86) (by decide) (by decide) k) ?_
          refine go (B := T7.setTop (mkF m 99 #[.val (.int p1), .val (.long q2), .second, .val (.int (p1 &&& (3 : Int32))), .val (.ref a_INT), .val (.int (0 : Int32))] [(.ref a_INT)])) (fun _ k => XS.aload X7.here hx rfl (hb hby at_97) rfl rfl k) ?_
          refine go (B := T7.setTop (mkF m 100 #[.val (.int p1), .val (.long q2), .second, .val (.int (p1 &&& (3 : Int32))), .val (.ref a_INT), .val (.int (0 : Int32))] [(.long q2), (.ref a_INT)])) (fun _ k => XS.lloadN X7.here hx rfl (hb hby at_99) rfl k) ?_
          obtain ⟨cq9, kq9, q9a, q9b, q9c⟩ := isOf hZ e7 E_INT
          obtain ⟨_, _, ⟨T9, L9, k9, n9⟩, -, X9, ⟨Lc9, hQ9, l9, y9, z9⟩, st9⟩ := X7.virtualBack hx (y := (⟨"com/example/predicant/predicant/jpa/IntegerWidth", "holds", "(J)Z"⟩ : MethodName)) (z := (⟨"com/example/predicant/predicant/jpa/IntegerWidth", "holds", "(J)Z"⟩ : MethodName)) hown (mvT hZ (hw _ (List.mem_of_getElem? (i := 3) rfl))) (mvT hZ (hw _ (List.mem_of_getElem? (i := 4) rfl))) (notFace_of_selects (args := #[]) (mvT hZ (hw _ (List.mem_of_getElem? (i := 6) rfl)))) (mvT hZ (hw _ (List.mem_of_getElem? (i := 6) rfl))) (mvT hZ (hw _ (List.mem_of_getElem? (i := 5) rfl))) (by decide) (backOf (W := 0) (rm1 l Z a0 hw [] a_INT q2 (-2147483648 : Int64) (2147483647 : Int64) h0 n0 Z0 F_mLeast_INT F_mGreatest_INT) hZ (hw _ (List.mem_of_getElem? (i := 7) rfl)) (hw _ (List.mem_of_getElem? (i := 1) rfl)) (by decide) (by decide)) q9a q9c (g := (mkF m 100 #[.val (.int p1), .val (.long q2), .second, .val (.int (p1 &&& (3 : Int32))), .val (.ref a_INT), .val (.int (0 : Int32))] [(.long q2), (.ref a_INT)])) rfl (by rw [hml]; rfl) (Steps.refl _) (argsL := [(.long q2)]) (rest := []) (lenOf pd__J_Z rfl) rfl (by show 2 * 0 + _ ≤ _; exact Nat.le_of_eq rfl) (hb hby at_100) (fun _ _ => ⟨rfl, e7, (by decide : 0 + 0 ≤ _), (by decide : 0 + 0 ≤ _)⟩)
          dsimp only [Pt.U, Pt.locs, Pt.cells, Pt.slots] at X9 l9 y9 z9 st9 hQ9
          subst l9 y9 z9
          obtain ⟨rfl, N9q, e9⟩ := hQ9
          have N9 := Fr.app N0 N9q
          refine go (B := T9.setTop (mkF m 103 #[.val (.int p1), .val (.long q2), .second, .val (.int (p1 &&& (3 : Int32))), .val (.ref a_INT), .val (.int (0 : Int32))] [(.int (fHo q2 (-2147483648 : Int64) (2147483647 : Int64)))])) (fun _ k => st9.trans k) ?_
          refine go (B := T9.setTop (mkF m 105 #[.val (.int p1), .val (.long q2), .second, .val (.int (p1 &&& (3 : Int32))), .val (.ref a_INT), .val (.int (0 : Int32))] [(.int (0 : Int32)), (.int (fHo q2 (-2147483648 : Int64) (2147483647 : Int64)))])) (fun _ k => XS.iload X9.here hx rfl (hb hby at_103) rfl k) ?_
          by_cases hc105 : (fHo q2 (-2147483648 : Int64) (2147483647 : Int64)) = (0 : Int32)
          · refine go (B := T9.setTop (mkF m 108 #[.val (.int p1), .val (.long q2), .second, .val (.int (p1 &&& (3 : Int32))), .val (.ref a_INT), .val (.int (0 : Int32))] [])) (fun _ k => XS.icmpNo X9.here hx rfl (hb hby at_105) rfl (teq hc105).2 k) ?_
            refine go (B := T9.setTop (mkF m 109 #[.val (.int p1), .val (.long q2), .second, .val (.int (p1 &&& (3 : Int32))), .val (.ref a_INT), .val (.int (0 : Int32))] [(.int (1 : Int32))])) (fun _ k => XS.iconst X9.here hx rfl (hb hby at_108) k) ?_
            refine go (B := T9.setTop (mkF m 113 #[.val (.int p1), .val (.long q2), .second, .val (.int (p1 &&& (3 : Int32))), .val (.ref a_INT), .val (.int (0 : Int32))] [(.int (1 : Int32))])) (fun _ k => XS.goto X9.here hx rfl (pc0 := 109) (pc' := 113) rfl (hb hby at_109) (by decide) (by decide) k) ?_
            refine goRetN X9 hx (t := .boolean) Bd.returns (by simp) hlk (hb hby at_113) ?_ (by decide) (by decide)
            rw [e9]
            exact ⟨rfl, N9⟩
          · refine go (B := T9.setTop (mkF m 112 #[.val (.int p1), .val (.long q2), .second, .val (.int (p1 &&& (3 : Int32))), .val (.ref a_INT), .val (.int (0 : Int32))] [])) (fun _ k => XS.icmpYes X9.here hx rfl (pc0 := 105) (pc' := 112) rfl (hb hby at_105) rfl (feq hc105).2 (by decide) (by decide) k) ?_
            refine go (B := T9.setTop (mkF m 113 #[.val (.int p1), .val (.long q2), .second, .val (.int (p1 &&& (3 : Int32))), .val (.ref a_INT), .val (.int (0 : Int32))] [(.int (0 : Int32))])) (fun _ k => XS.iconst X9.here hx rfl (hb hby at_112) k) ?_
            refine goRetN X9 hx (t := .boolean) Bd.returns (by simp) hlk (hb hby at_113) ?_ (by decide) (by decide)
            rw [e9]
            exfalso
            have q := fHo_int q2 (-2147483648 : Int64) (2147483647 : Int64)
            have b := nar32 q2
            have r1 := q2.toInt_lt
            have r2 := q2.le_toInt
            have l1 : ((-2147483648 : Int64) : Int64).toInt = -2147483648 := by decide
            have l2 : ((2147483647 : Int64) : Int64).toInt = 2147483647 := by decide
            rw [l1, l2] at q
            simp only [Int32.lt_iff_toInt_lt, Int64.lt_iff_toInt_lt, ← Int32.toInt_inj, ← Int64.toInt_inj, Int32.reduceToInt, Int64.reduceToInt] at hc76 hc105
            omega
      · refine go (B := s₁.setTop (mkF m 89 #[.val (.int p1), .val (.long q2), .second, .val (.int (p1 &&& (3 : Int32))), .unset, .unset] [])) (fun _ k => XS.icmpYes X0.here hx rfl (pc0 := 63) (pc' := 89) rfl (hb hby at_63) rfl (feq hc63).2 (by decide) (by decide) k) ?_
        obtain ⟨T10, X10, e10, st10⟩ := getS2 X0 hx hZ hown (host := "") (Or.inl (hw _ (List.mem_of_getElem? (i := 16) rfl))) Via.refl e0 S_LONG (g := (mkF m 89 #[.val (.int p1), .val (.long q2), .second, .val (.int (p1 &&& (3 : Int32))), .unset, .unset] [])) rfl (hb hby at_89)
        refine go (B := T10.setTop (mkF m 92 #[.val (.int p1), .val (.long q2), .second, .val (.int (p1 &&& (3 : Int32))), .unset, .unset] [(.ref a_LONG)])) (fun _ k => st10 _ k) ?_
        refine go (B := T10.setTop (mkF m 94 #[.val (.int p1), .val (.long q2), .second, .val (.int (p1 &&& (3 : Int32))), .val (.ref a_LONG), .unset] [])) (fun _ k => XS.astore X10.here hx rfl (hb hby at_92) rfl rfl (l' := #[.val (.int p1), .val (.long q2), .second, .val (.int (p1 &&& (3 : Int32))), .val (.ref a_LONG), .unset]) rfl k) ?_
        refine go (B := T10.setTop (mkF m 95 #[.val (.int p1), .val (.long q2), .second, .val (.int (p1 &&& (3 : Int32))), .val (.ref a_LONG), .unset] [(.int (1 : Int32))])) (fun _ k => XS.iconst X10.here hx rfl (hb hby at_94) k) ?_
        refine go (B := T10.setTop (mkF m 97 #[.val (.int p1), .val (.long q2), .second, .val (.int (p1 &&& (3 : Int32))), .val (.ref a_LONG), .val (.int (1 : Int32))] [])) (fun _ k => XS.istore X10.here hx rfl (hb hby at_95) rfl (l' := #[.val (.int p1), .val (.long q2), .second, .val (.int (p1 &&& (3 : Int32))), .val (.ref a_LONG), .val (.int (1 : Int32))]) rfl k) ?_
        refine go (B := T10.setTop (mkF m 99 #[.val (.int p1), .val (.long q2), .second, .val (.int (p1 &&& (3 : Int32))), .val (.ref a_LONG), .val (.int (1 : Int32))] [(.ref a_LONG)])) (fun _ k => XS.aload X10.here hx rfl (hb hby at_97) rfl rfl k) ?_
        refine go (B := T10.setTop (mkF m 100 #[.val (.int p1), .val (.long q2), .second, .val (.int (p1 &&& (3 : Int32))), .val (.ref a_LONG), .val (.int (1 : Int32))] [(.long q2), (.ref a_LONG)])) (fun _ k => XS.lloadN X10.here hx rfl (hb hby at_99) rfl k) ?_
        obtain ⟨cq11, kq11, q11a, q11b, q11c⟩ := isOf hZ e10 E_LONG
        obtain ⟨_, _, ⟨T11, L11, k11, n11⟩, -, X11, ⟨Lc11, hQ11, l11, y11, z11⟩, st11⟩ := X10.virtualBack hx (y := (⟨"com/example/predicant/predicant/jpa/IntegerWidth", "holds", "(J)Z"⟩ : MethodName)) (z := (⟨"com/example/predicant/predicant/jpa/IntegerWidth", "holds", "(J)Z"⟩ : MethodName)) hown (mvT hZ (hw _ (List.mem_of_getElem? (i := 3) rfl))) (mvT hZ (hw _ (List.mem_of_getElem? (i := 4) rfl))) (notFace_of_selects (args := #[]) (mvT hZ (hw _ (List.mem_of_getElem? (i := 6) rfl)))) (mvT hZ (hw _ (List.mem_of_getElem? (i := 6) rfl))) (mvT hZ (hw _ (List.mem_of_getElem? (i := 5) rfl))) (by decide) (backOf (W := 0) (rm1 l Z a0 hw [] a_LONG q2 (-9223372036854775808 : Int64) (9223372036854775807 : Int64) h0 n0 Z0 F_mLeast_LONG F_mGreatest_LONG) hZ (hw _ (List.mem_of_getElem? (i := 7) rfl)) (hw _ (List.mem_of_getElem? (i := 1) rfl)) (by decide) (by decide)) q11a q11c (g := (mkF m 100 #[.val (.int p1), .val (.long q2), .second, .val (.int (p1 &&& (3 : Int32))), .val (.ref a_LONG), .val (.int (1 : Int32))] [(.long q2), (.ref a_LONG)])) rfl (by rw [hml]; rfl) (Steps.refl _) (argsL := [(.long q2)]) (rest := []) (lenOf pd__J_Z rfl) rfl (by show 2 * 0 + _ ≤ _; exact Nat.le_of_eq rfl) (hb hby at_100) (fun _ _ => ⟨rfl, e10, (by decide : 0 + 0 ≤ _), (by decide : 0 + 0 ≤ _)⟩)
        dsimp only [Pt.U, Pt.locs, Pt.cells, Pt.slots] at X11 l11 y11 z11 st11 hQ11
        subst l11 y11 z11
        obtain ⟨rfl, N11q, e11⟩ := hQ11
        have N11 := Fr.app N0 N11q
        refine go (B := T11.setTop (mkF m 103 #[.val (.int p1), .val (.long q2), .second, .val (.int (p1 &&& (3 : Int32))), .val (.ref a_LONG), .val (.int (1 : Int32))] [(.int (fHo q2 (-9223372036854775808 : Int64) (9223372036854775807 : Int64)))])) (fun _ k => st11.trans k) ?_
        refine go (B := T11.setTop (mkF m 105 #[.val (.int p1), .val (.long q2), .second, .val (.int (p1 &&& (3 : Int32))), .val (.ref a_LONG), .val (.int (1 : Int32))] [(.int (1 : Int32)), (.int (fHo q2 (-9223372036854775808 : Int64) (9223372036854775807 : Int64)))])) (fun _ k => XS.iload X11.here hx rfl (hb hby at_103) rfl k) ?_
        by_cases hc105 : (fHo q2 (-9223372036854775808 : Int64) (9223372036854775807 : Int64)) = (1 : Int32)
        · refine go (B := T11.setTop (mkF m 108 #[.val (.int p1), .val (.long q2), .second, .val (.int (p1 &&& (3 : Int32))), .val (.ref a_LONG), .val (.int (1 : Int32))] [])) (fun _ k => XS.icmpNo X11.here hx rfl (hb hby at_105) rfl (teq hc105).2 k) ?_
          refine go (B := T11.setTop (mkF m 109 #[.val (.int p1), .val (.long q2), .second, .val (.int (p1 &&& (3 : Int32))), .val (.ref a_LONG), .val (.int (1 : Int32))] [(.int (1 : Int32))])) (fun _ k => XS.iconst X11.here hx rfl (hb hby at_108) k) ?_
          refine go (B := T11.setTop (mkF m 113 #[.val (.int p1), .val (.long q2), .second, .val (.int (p1 &&& (3 : Int32))), .val (.ref a_LONG), .val (.int (1 : Int32))] [(.int (1 : Int32))])) (fun _ k => XS.goto X11.here hx rfl (pc0 := 109) (pc' := 113) rfl (hb hby at_109) (by decide) (by decide) k) ?_
          refine goRetN X11 hx (t := .boolean) Bd.returns (by simp) hlk (hb hby at_113) ?_ (by decide) (by decide)
          rw [e11]
          exact ⟨rfl, N11⟩
        · refine go (B := T11.setTop (mkF m 112 #[.val (.int p1), .val (.long q2), .second, .val (.int (p1 &&& (3 : Int32))), .val (.ref a_LONG), .val (.int (1 : Int32))] [])) (fun _ k => XS.icmpYes X11.here hx rfl (pc0 := 105) (pc' := 112) rfl (hb hby at_105) rfl (feq hc105).2 (by decide) (by decide) k) ?_
          refine go (B := T11.setTop (mkF m 113 #[.val (.int p1), .val (.long q2), .second, .val (.int (p1 &&& (3 : Int32))), .val (.ref a_LONG), .val (.int (1 : Int32))] [(.int (0 : Int32))])) (fun _ k => XS.iconst X11.here hx rfl (hb hby at_112) k) ?_
          refine goRetN X11 hx (t := .boolean) Bd.returns (by simp) hlk (hb hby at_113) ?_ (by decide) (by decide)
          rw [e11]
          exfalso
          have q := fHo_int q2 (-9223372036854775808 : Int64) (9223372036854775807 : Int64)
          have b := trivial
          have r1 := q2.toInt_lt
          have r2 := q2.le_toInt
          have l1 : ((-9223372036854775808 : Int64) : Int64).toInt = -9223372036854775808 := by decide
          have l2 : ((9223372036854775807 : Int64) : Int64).toInt = 9223372036854775807 := by decide
          rw [l1, l2] at q
          simp only [Int32.lt_iff_toInt_lt, Int64.lt_iff_toInt_lt, ← Int32.toInt_inj, ← Int64.toInt_inj, Int32.reduceToInt, Int64.reduceToInt] at hc105
          omega
set_option maxRecDepth 65536 in
set_option maxHeartbeats 40000000 in
theorem comes_1 {Post : Tables → Env → Array Value → State → Outcome → State → Prop} (hpost : ∀ tb e args s v u, (limb_1_1.after args s (.returned v) u = true ∧ limb_1_2.after args s (.returned v) u = true ∧ True) → FrameEnd s (.returned v) u (Jvm.fieldLocs frame_1_writes args s ++ Jvm.arrayLocs frame_1_arrays args s ++ Jvm.staticLocs frame_1_statics s) 0 0 → Post tb e args s (.returned v) u) :
    ArmFor flags0 classFile x code maxLocals ret World_1 tables_1 room_1 Calls_1 rest_1 Pre_1 Post := by
  intro l hfl _ _ p e ha hc hk s m args below hf hA hF happ hP
  obtain ⟨hcalls, hrest, hpre⟩ := hP
  obtain ⟨-, -, -, hnamed, -, -, -, hat⟩ := (Spec.applies_iff hf).mp happ
  obtain ⟨hg, hn⟩ := and_e (Cond.before_iff.mp (show (Jvm.Cond.and given_1 narrow_1).before args s = true from hpre))
  obtain ⟨hcnt, gg0⟩ := and_e hg
  obtain ⟨ga0, gg1⟩ := and_e gg0
  obtain ⟨w0, w1, rfl⟩ : ∃ w0 w1 : Value, args = #[w0, w1] := by
    have hs : args.size = 2 := by simpa [Cond.value, given_1] using hcnt
    obtain ⟨L⟩ := args
    match L, hs with
    | [w0, w1], _ => exact ⟨w0, w1, rfl⟩
  have hw := fun d (hd : d ∈ tables_1) => atoms_spec (ws := Jvm.Cond.code x code maxLocals ret :: tables_1) hat d (List.mem_cons_of_mem _ hd)
  have hfit : Fit s := fun {y c} hc i hi => by
    obtain ⟨ha, rfl⟩ := Array.getElem?_eq_some_iff.mp hc
    have q := List.all_eq_true.mp ((Array.all_eq_true_iff_forall_mem.mp hF) _ (Array.getElem_mem ha)) i (List.mem_range.mpr hi)
    simpa [Array.getElem?_eq_getElem hi] using q
  obtain ⟨i0, ei0⟩ := is_v ga0
  obtain rfl : w0 = (.int i0) := Option.some.inj ei0
  obtain ⟨i1, ei1⟩ := isL_v gg1
  obtain rfl : w1 = (.long i1) := Option.some.inj ei1
  obtain ⟨nh0, nr0⟩ := and_e hn
  obtain ⟨a_BYTE, ev_BYTE⟩ := exa_v nh0
  have E_BYTE := Exa.start ev_BYTE nh0
  have S_BYTE := Sta.start ev_BYTE (Or.inr ⟨(hw _ (List.mem_of_getElem? (i := 1) rfl)), (hw _ (List.mem_of_getElem? (i := 2) rfl))⟩)
  obtain ⟨nh1, nr1⟩ := and_e nr0
  have F_mLeast_BYTE := Fld.start ((fld_at ev_BYTE).symm.trans (eqv_l rfl nh1))
  obtain ⟨nh2, nr2⟩ := and_e nr1
  have F_mGreatest_BYTE := Fld.start ((fld_at ev_BYTE).symm.trans (eqv_l rfl nh2))
  obtain ⟨nh3, nr3⟩ := and_e nr2
  obtain ⟨a_SHORT, ev_SHORT⟩ := exa_v nh3
  have E_SHORT := Exa.start ev_SHORT nh3
  have S_SHORT := Sta.start ev_SHORT (Or.inr ⟨(hw _ (List.mem_of_getElem? (i := 1) rfl)), (hw _ (List.mem_of_getElem? (i := 13) rfl))⟩)
  obtain ⟨nh4, nr4⟩ := and_e nr3
  have F_mLeast_SHORT := Fld.start ((fld_at ev_SHORT).symm.trans (eqv_l rfl nh4))
  obtain ⟨nh5, nr5⟩ := and_e nr4
  obtain ⟨a_INT, ev_INT⟩ := exa_v nh5
  have E_INT := Exa.start ev_INT nh5
  have S_INT := Sta.start ev_INT (Or.inr ⟨(hw _ (List.mem_of_getElem? (i := 1) rfl)), (hw _ (List.mem_of_getElem? (i := 15) rfl))⟩)
  obtain ⟨nh6, nr6⟩ := and_e nr5
  have F_mLeast_INT := Fld.start ((fld_at ev_INT).symm.trans (eqv_l rfl nh6))
  obtain ⟨nh7, nr7⟩ := and_e nr6
  have F_mGreatest_INT := Fld.start ((fld_at ev_INT).symm.trans (eqv_l rfl nh7))
  obtain ⟨nh8, nr8⟩ := and_e nr7
  obtain ⟨a_LONG, ev_LONG⟩ := exa_v nh8
  have E_LONG := Exa.start ev_LONG nh8
  have S_LONG := Sta.start ev_LONG (Or.inr ⟨(hw _ (List.mem_of_getElem? (i := 1) rfl)), (hw _ (List.mem_of_getElem? (i := 17) rfl))⟩)
  obtain ⟨nh9, nr9⟩ := and_e nr8
  have F_mLeast_LONG := Fld.start ((fld_at ev_LONG).symm.trans (eqv_l rfl nh9))
  obtain ⟨nh10, nr10⟩ := and_e nr9
  have F_mGreatest_LONG := Fld.start ((fld_at ev_LONG).symm.trans (eqv_l rfl nh10))
  have F_mGreatest_SHORT := Fld.start ((fld_at ev_SHORT).symm.trans (eqv_l rfl nr10))
  obtain ⟨n, o, h1, h2, h3, _, L, rfl, ⟨rfl, N⟩, hq⟩ := rm0 l s _ hw tables_1 i0 i1 a_BYTE a_SHORT a_INT a_LONG s.heap s.heap.size (Nat.le_refl _) S_BYTE E_BYTE F_mLeast_BYTE F_mGreatest_BYTE S_SHORT E_SHORT F_mLeast_SHORT F_mGreatest_SHORT S_INT E_INT F_mLeast_INT F_mGreatest_INT S_LONG E_LONG F_mLeast_LONG F_mGreatest_LONG p e ha hc hk s m _ below hf ((Spec.applies_iff_loose hf).mp happ).1 ⟨rfl, State.Warmed39.refl s, rfl⟩ trivial
  refine ⟨n, _, h1, h2, h3, hpost _ _ _ _ _ _ ⟨Cond.after_iff.mpr rfl, Cond.after_iff.mpr (eq_i res_at (Term.int_eval (1)) rfl), trivial⟩ ⟨hq.1, hq.2.1, (hq.2.2.sift fun y hy => Or.inr (N y hy)).mono (by decide) (by decide)⟩⟩
theorem main_1_1 : Claimed_1_1 := comes_1 fun _ _ _ _ _ _ h hF => ⟨h.1, hF⟩
theorem main_1_2 : Claimed_1_2 := comes_1 fun _ _ _ _ _ _ h hF => ⟨h.2.1, hF⟩
end Jvm.Pilot.@@N@@
namespace Jvm.Pilot.@@N@@
open Jvm Jvm.ClassFile Sem Op Lib Jvm.Free Jvm.Stand Jvm.Pilot.@@N@@.Jvm.D
/-! MADE BY PROGRAM (witnessworld.py) out of the Statement's table words and the real class files: 12 classes; the members and pool entries that the words name. The judged class is class 1, her method 1. -/
namespace start1
open Jvm.ClassFile
def u (s : String) : CpInfo := .utf8 (stringToUtf16 s)
/-- a pool by its gaps: so many unusable entries, then the entry; so many at the end -/
def gap : Nat → List CpInfo → List CpInfo
  | 0, r => r
  | n + 1, r => .unusable :: gap n r
def poolList (es : List (Nat × CpInfo)) (last : Nat) : List CpInfo := es.foldr (fun e r => gap e.1 (e.2 :: r)) (gap last [])
def pool (es : List (Nat × CpInfo)) (last : Nat) : Array CpInfo := ⟨poolList es last⟩
def fileOf (pool : Array CpInfo) (this : Nat) (attrs : Array Attribute := #[]) (ms : Array MethodInfo := #[]) (fl : Nat := 33) (sup : Nat := 0) (ifs : Array Nat := #[]) (fds : Array FieldInfo := #[]) : ClassFile where
  minorVersion := 0
  majorVersion := 65
  constantPool := pool
  accessFlags := fl
  thisClass := this
  superClass := sup
  interfaces := ifs
  fields := fds
  methods := ms
  attributes := attrs
def plain (name : String) (sup : Option ClassId) : Class where
  name := name
  kind := .ordinary
  loader := none
  accessFlags := 33
  super := sup
  interfaces := #[]
  cf := none
  fields := #[]
  methods := #[]
  instanceTypes := #[]
  staticTypes := #[]
  resolved := #[]
  callSites := []
  init := .initialized
  statics := none
  mirror := none

def pool0 : Array CpInfo := pool [(5, u "<init>"), (0, u "()V"), (1, .class_ 10), (1, u "java/lang/Object")] 113

def k0m0 : Method := { name := "<init>", desc := "()V", sig := { parameters := [], returnType := none }, accessFlags := 1, code := none }
/-- java/lang/Object -/
def k0 : Class := { plain "java/lang/Object" none with
  accessFlags := 33
  interfaces := #[]
  cf := some (fileOf pool0 8 #[] #[{ accessFlags := 1, nameIndex := 5, descriptorIndex := 6, attributes := #[] }] 33 0 #[] #[])
  fields := #[]
  methods := #[k0m0]
  instanceTypes := #[]
  staticTypes := #[]
  resolved := Array.replicate 124 none
  statics := none }

def pool1 : Array CpInfo := pool [(2, .class_ 4), (1, u "java/lang/Object"), (0, u "<init>"), (0, u "()V"), (0, .fieldref 8 9), (0, .class_ 10), (0, .nameAndType 11 12), (0, u "com/example/predicant/predicant/jpa/IntegerWidth"), (0, u "BYTE"), (0, u "Lcom/example/predicant/predicant/jpa/IntegerWidth;"), (0, .fieldref 8 14), (0, .nameAndType 15 12), (0, u "SHORT"), (0, .fieldref 8 17), (0, .nameAndType 18 12), (0, u "INT"), (0, .fieldref 8 20), (0, .nameAndType 21 12), (0, u "LONG"), (0, .methodref 8 23), (0, .nameAndType 24 25), (0, u "holds"), (0, u "(J)Z"), (0, .class_ 27), (0, u "com/example/predicant/predicant/jpa/IntegerWidthHoldsPinLaw"), (2, u "law"), (0, u "(IJ)Z")] 3

def k1m0 : Method := { name := "<init>", desc := "()V", sig := { parameters := [], returnType := none }, accessFlags := 1, code := none }
def k1c1 : Code := { maxStack := 4, maxLocals := 6, code := code, exceptionTable := #[], attributes := #[] }
def k1m1 : Method := { name := "law", desc := "(IJ)Z", sig := { parameters := [.int, .long], returnType := some .boolean }, accessFlags := 9, code := some k1c1 }
/-- com/example/predicant/predicant/jpa/IntegerWidthHoldsPinLaw -/
def k1 : Class := { plain "com/example/predicant/predicant/jpa/IntegerWidthHoldsPinLaw" (some 0) with
  accessFlags := 49
  interfaces := #[]
  cf := some (fileOf pool1 26 #[] #[{ accessFlags := 1, nameIndex := 5, descriptorIndex := 6, attributes := #[] }, { accessFlags := 9, nameIndex := 30, descriptorIndex := 31, attributes := #[] }] 49 2 #[] #[])
  fields := #[]
  methods := #[k1m0, k1m1]
  instanceTypes := #[]
  staticTypes := #[]
  resolved := Array.replicate 35 none
  statics := none }

def pool2 : Array CpInfo := pool [(1, .class_ 2), (0, u "java/lang/constant/Constable"), (0, .class_ 4), (0, u "java/lang/Object")] 6

/-- java/lang/constant/Constable -/
def k2 : Class := { plain "java/lang/constant/Constable" (some 0) with
  accessFlags := 1537
  interfaces := #[]
  cf := some (fileOf pool2 1 #[] #[] 1537 3 #[] #[])
  fields := #[]
  methods := #[]
  instanceTypes := #[]
  staticTypes := #[]
  resolved := Array.replicate 11 none
  statics := none }

def pool3 : Array CpInfo := pool [(1, .class_ 2), (0, u "java/lang/Comparable"), (0, .class_ 4), (0, u "java/lang/Object")] 7

/-- java/lang/Comparable -/
def k3 : Class := { plain "java/lang/Comparable" (some 0) with
  accessFlags := 1537
  interfaces := #[]
  cf := some (fileOf pool3 1 #[] #[] 1537 3 #[] #[])
  fields := #[]
  methods := #[]
  instanceTypes := #[]
  staticTypes := #[]
  resolved := Array.replicate 12 none
  statics := none }

def pool4 : Array CpInfo := pool [(1, .class_ 2), (0, u "java/io/Serializable"), (0, .class_ 4), (0, u "java/lang/Object")] 2

/-- java/io/Serializable -/
def k4 : Class := { plain "java/io/Serializable" (some 0) with
  accessFlags := 1537
  interfaces := #[]
  cf := some (fileOf pool4 1 #[] #[] 1537 3 #[] #[])
  fields := #[]
  methods := #[]
  instanceTypes := #[]
  staticTypes := #[]
  resolved := Array.replicate 7 none
  statics := none }

def pool5 : Array CpInfo := pool [(2, .class_ 4), (1, u "java/lang/Enum"), (0, u "name"), (0, u "Ljava/lang/String;"), (2, u "ordinal"), (0, u "I"), (1, .class_ 14), (1, u "java/lang/Object"), (4, u "hash"), (86, .class_ 108), (1, u "java/lang/Enum$EnumDesc"), (2, .class_ 112), (0, u "java/lang/constant/Constable"), (0, .class_ 114), (0, u "java/lang/Comparable"), (0, .class_ 116), (0, u "java/io/Serializable")] 87

/-- java/lang/Enum -/
def k5 : Class := { plain "java/lang/Enum" (some 0) with
  accessFlags := 1057
  interfaces := #[2, 3, 4]
  cf := some (fileOf pool5 2 #[.nestMembers #[106]] #[] 1057 12 #[111, 113, 115] #[{ accessFlags := 18, nameIndex := 5, descriptorIndex := 6, attributes := #[] }, { accessFlags := 18, nameIndex := 9, descriptorIndex := 10, attributes := #[] }, { accessFlags := 2, nameIndex := 19, descriptorIndex := 10, attributes := #[] }])
  fields := #[{ name := "name", type := (.object "java/lang/String"), accessFlags := 18, slot := 0, constantValue := 0 }, { name := "ordinal", type := .int, accessFlags := 18, slot := 1, constantValue := 0 }, { name := "hash", type := .int, accessFlags := 2, slot := 2, constantValue := 0 }]
  methods := #[]
  instanceTypes := #[(.object "java/lang/String"), .int, .int]
  staticTypes := #[]
  resolved := Array.replicate 204 none
  statics := none }

def pool6 : Array CpInfo := pool [(1, .class_ 2), (0, u "com/example/predicant/predicant/jpa/IntegerWidth"), (2, u "BYTE"), (0, u "Lcom/example/predicant/predicant/jpa/IntegerWidth;"), (2, u "SHORT"), (2, u "INT"), (2, u "LONG"), (2, u "$VALUES"), (0, u "[Lcom/example/predicant/predicant/jpa/IntegerWidth;"), (6, .class_ 28), (1, u "java/lang/Enum"), (8, u "mBoxed"), (0, u "Ljava/lang/Class;"), (2, u "mPrimitive"), (0, .fieldref 1 43), (0, .nameAndType 44 45), (0, u "mLeast"), (0, u "J"), (0, .fieldref 1 47), (0, .nameAndType 48 45), (0, u "mGreatest"), (101, u "holds"), (0, u "(J)Z")] 10

def k6c0 : Code := { maxStack := 4, maxLocals := 3, code := prog_52_method_6_code, exceptionTable := #[], attributes := #[] }
def k6m0 : Method := { name := "holds", desc := "(J)Z", sig := { parameters := [.long], returnType := some .boolean }, accessFlags := 0, code := some k6c0 }
/-- com/example/predicant/predicant/jpa/IntegerWidth -/
def k6 : Class := { plain "com/example/predicant/predicant/jpa/IntegerWidth" (some 5) with
  accessFlags := 16432
  interfaces := #[]
  cf := some (fileOf pool6 1 #[] #[{ accessFlags := 0, nameIndex := 150, descriptorIndex := 151, attributes := #[] }] 16432 26 #[] #[{ accessFlags := 16409, nameIndex := 5, descriptorIndex := 6, attributes := #[] }, { accessFlags := 16409, nameIndex := 9, descriptorIndex := 6, attributes := #[] }, { accessFlags := 16409, nameIndex := 12, descriptorIndex := 6, attributes := #[] }, { accessFlags := 16409, nameIndex := 15, descriptorIndex := 6, attributes := #[] }, { accessFlags := 18, nameIndex := 37, descriptorIndex := 38, attributes := #[] }, { accessFlags := 18, nameIndex := 41, descriptorIndex := 38, attributes := #[] }, { accessFlags := 18, nameIndex := 44, descriptorIndex := 45, attributes := #[] }, { accessFlags := 18, nameIndex := 48, descriptorIndex := 45, attributes := #[] }, { accessFlags := 4122, nameIndex := 18, descriptorIndex := 19, attributes := #[] }])
  fields := #[{ name := "BYTE", type := (.object "com/example/predicant/predicant/jpa/IntegerWidth"), accessFlags := 16409, slot := 0, constantValue := 0 }, { name := "SHORT", type := (.object "com/example/predicant/predicant/jpa/IntegerWidth"), accessFlags := 16409, slot := 1, constantValue := 0 }, { name := "INT", type := (.object "com/example/predicant/predicant/jpa/IntegerWidth"), accessFlags := 16409, slot := 2, constantValue := 0 }, { name := "LONG", type := (.object "com/example/predicant/predicant/jpa/IntegerWidth"), accessFlags := 16409, slot := 3, constantValue := 0 }, { name := "mBoxed", type := (.object "java/lang/Class"), accessFlags := 18, slot := 3, constantValue := 0 }, { name := "mPrimitive", type := (.object "java/lang/Class"), accessFlags := 18, slot := 4, constantValue := 0 }, { name := "mLeast", type := .long, accessFlags := 18, slot := 5, constantValue := 0 }, { name := "mGreatest", type := .long, accessFlags := 18, slot := 6, constantValue := 0 }, { name := "$VALUES", type := (.array (.object "com/example/predicant/predicant/jpa/IntegerWidth")), accessFlags := 4122, slot := 4, constantValue := 0 }]
  methods := #[k6m0]
  instanceTypes := #[(.object "java/lang/String"), .int, .int, (.object "java/lang/Class"), (.object "java/lang/Class"), .long, .long]
  staticTypes := #[(.object "com/example/predicant/predicant/jpa/IntegerWidth"), (.object "com/example/predicant/predicant/jpa/IntegerWidth"), (.object "com/example/predicant/predicant/jpa/IntegerWidth"), (.object "com/example/predicant/predicant/jpa/IntegerWidth"), (.array (.object "com/example/predicant/predicant/jpa/IntegerWidth"))]
  resolved := Array.replicate 162 none
  statics := some 0 }

def pool7 : Array CpInfo := pool [(1, u "java/lang/Cloneable"), (0, .class_ 1), (0, u "java/lang/Object"), (0, .class_ 3)] 3

/-- java/lang/Cloneable -/
def k7 : Class := { plain "java/lang/Cloneable" (some 0) with
  accessFlags := 1537
  interfaces := #[]
  cf := some (fileOf pool7 2 #[] #[] 1537 4 #[] #[])
  fields := #[]
  methods := #[]
  instanceTypes := #[]
  staticTypes := #[]
  resolved := Array.replicate 8 none
  statics := none }

/-- the primitive byte -/
def k8 : Class := { plain "byte" none with kind := .primitive 'B', accessFlags := 0x411 }
/-- [B -/
def k9 : Class := { plain "[B" (some 0) with kind := .array 8 .byte, interfaces := #[7, 4], accessFlags := 1041 }

/-- the primitive int -/
def k10 : Class := { plain "int" none with kind := .primitive 'I', accessFlags := 0x411 }
/-- [I -/
def k11 : Class := { plain "[I" (some 0) with kind := .array 10 .int, interfaces := #[7, 4], accessFlags := 1041 }

def heap : Heap := #[{ cls := 6, slots := #[.ref 1, .ref 2, .ref 3, .ref 4, .null], vm := .statics 6 },
  { cls := 6, slots := #[.null, .int 0, .int 0, .null, .null, .long (-128), .long 127], vm := .none },
  { cls := 6, slots := #[.null, .int 0, .int 0, .null, .null, .long (-32768), .long 32767], vm := .none },
  { cls := 6, slots := #[.null, .int 0, .int 0, .null, .null, .long (-2147483648), .long 2147483647], vm := .none },
  { cls := 6, slots := #[.null, .int 0, .int 0, .null, .null, .long (-9223372036854775808), .long 9223372036854775807], vm := .none }]
def classes : Array Class := #[k0, k1, k2, k3, k4, k5, k6, k7, k8, k9, k10, k11]
def interned : List (Array UInt16 × Addr) := []
def slotsUsed : Nat := 33
def theMethod : MethodId := ⟨1, 1⟩
def args0 : Array Value := #[.int 1, .long 7]
def aboutOver (below : List Frame) : State where
  vm := { classes := classes, interned := interned.toArray }
  heap := heap
  slotsUsed := slotsUsed
  threads := #[{ frames := .invoking theMethod args0 :: below }]
def below0 : List Frame := [.native { method := ⟨0, 0⟩, args := #[] }]
def about1 : State := aboutOver below0
def p0 : Program := .bare "" "" ""
def e0 : Env := launch0.env 0 0 0
theorem w_frames : about1.frames = Frame.invoking theMethod args0 :: below0 := rfl
set_option maxRecDepth 65536 in
theorem w_args : argsFit about1.vm theMethod args0 = true := by decide +kernel
set_option maxRecDepth 65536 in
theorem w_heap : heapFits about1 = true := by decide +kernel
set_option maxRecDepth 65536 in
theorem w_runnable : about1.curStatus? = some .runnable := by decide +kernel
set_option maxRecDepth 65536 in
theorem w_alone : about1.alone = true := by decide +kernel
set_option maxRecDepth 65536 in
theorem w_named : about1.methodNamed? x = some theMethod := by decide +kernel
set_option maxRecDepth 65536 in
theorem w_hears : about1.hears theMethod below0 = true := by decide +kernel
set_option maxRecDepth 65536 in
theorem w_ripe : about1.ripe theMethod args0 below0 = true := by decide +kernel
theorem w_running : about1.status = .running := rfl
set_option maxRecDepth 65536 in
theorem w_room : about1.hasRoom e0.platform room_1 = true :=
  launch0.hasRoom_least _ room_1 (by decide +kernel) (by decide +kernel) (by decide +kernel) (by decide +kernel) (by decide +kernel) (by decide +kernel)
theorem allAtoms_all (ts : List Jvm.Cond) (a : Array Jvm.Value) (st : Jvm.State) : (allAtoms ts).before a st = ts.all (fun c => c.before a st) := by
  induction ts with
  | nil => rfl
  | cons c t ih =>
    show (Jvm.Cond.and c (allAtoms t)).before a st = _
    rw [Jvm.Cond.before_and, ih, List.all_cons]
def words1 : List Jvm.Cond := Jvm.Cond.code x code maxLocals ret :: tables_1
/-- a 'code' word, met by the world's own term for the bytes: nothing is compared byte by byte -/
theorem code_word {y : MethodName} {bytes : ByteArray} {mx : Nat} {rt : Option FieldType} {a : Array Value} {s : State} {m : MethodId} {meth : Method} {c : Code} (h1 : s.methodNamed? y = some m) (h2 : s.vm.method? m = some meth) (h3 : meth.code = some c) (h4 : c.code = bytes)
    (h5 : (c.maxLocals == mx && c.exceptionTable.isEmpty && decide (c.maxStack ≤ mostOperands) && decide (meth.sig.returnType = rt) && !meth.locks && decide (parseMethodDescriptor y.desc = some meth.sig)) = true) : (Jvm.Cond.code y bytes mx rt).before a s = true := by
  simp only [Bool.and_eq_true, beq_iff_eq, Bool.not_eq_true', decide_eq_true_eq] at h5
  obtain ⟨⟨⟨⟨⟨g1, g2⟩, g3⟩, g4⟩, g5⟩, g6⟩ := h5
  simp [Cond.before, Cond.holds, Cond.value, h1, h2, h3, h4, g1, g2, g3, g4, g5, g6]
def isCode : Jvm.Cond → Bool
  | .code _ _ _ _ => true
  | _ => false
theorem all_split {L : List Jvm.Cond} {P : Jvm.Cond → Bool} (h1 : L.all (fun c => isCode c || P c) = true) (h2 : ∀ c ∈ L.filter isCode, P c = true) : L.all P = true := by
  refine List.all_eq_true.mpr fun c hc => ?_
  have h := List.all_eq_true.mp h1 c hc
  rcases Bool.eq_false_or_eq_true (isCode c) with hi | hi
  · exact h2 c (List.mem_filter.mpr ⟨hc, hi⟩)
  · simpa [hi] using h
set_option maxRecDepth 65536 in
theorem w_c0 : (Jvm.Cond.code x code maxLocals ret).before args0 about1 = true := code_word (m := ⟨1, 1⟩) (meth := k1m1) (c := k1c1) (by decide +kernel) rfl rfl rfl (by decide +kernel)
set_option maxRecDepth 65536 in
theorem w_c1 : (Jvm.Cond.code ({ cls := "com/example/predicant/predicant/jpa/IntegerWidth", name := "holds", desc := "(J)Z" } : Jvm.MethodName) prog_52_method_6_code (3 : Nat) (Option.some Jvm.ClassFile.FieldType.boolean)).before args0 about1 = true := code_word (m := ⟨6, 0⟩) (meth := k6m0) (c := k6c0) (by decide +kernel) rfl rfl rfl (by decide +kernel)
def codes1 : List Jvm.Cond := [Jvm.Cond.code x code maxLocals ret, Jvm.Cond.code ({ cls := "com/example/predicant/predicant/jpa/IntegerWidth", name := "holds", desc := "(J)Z" } : Jvm.MethodName) prog_52_method_6_code (3 : Nat) (Option.some Jvm.ClassFile.FieldType.boolean)]
set_option maxRecDepth 65536 in
theorem codes_eq : words1.filter isCode = codes1 := rfl
theorem w_codes : ∀ c ∈ words1.filter isCode, c.before args0 about1 = true := by
  rw [codes_eq]
  intro c hc
  simp only [codes1, List.mem_cons, List.not_mem_nil, or_false] at hc
  rcases hc with rfl | rfl
  · exact w_c0
  · exact w_c1
set_option maxRecDepth 65536 in
theorem w_t1 : words1.all (fun c => isCode c || c.before args0 about1) = true := by decide +kernel
theorem w_tables : (allAtoms (Jvm.Cond.code x code maxLocals ret :: tables_1)).before args0 about1 = true := by
  rw [allAtoms_all]
  show words1.all (fun c => c.before args0 about1) = true
  refine all_split ?_ w_codes
  rw [w_t1]
set_option maxRecDepth 65536 in
theorem w_case : (Jvm.Cond.and given_1 narrow_1).before args0 about1 = true := by decide +kernel
theorem w_applies : (headSpec (Jvm.Cond.code x code maxLocals ret :: tables_1) room_1).applies x e0.platform about1 = true :=
  (Spec.applies_iff w_frames).mpr ⟨w_running, w_runnable, w_alone, w_named, w_hears, w_ripe, w_room, w_tables⟩
theorem atStart : AtStart classFile x code maxLocals ret World_1 tables_1 room_1 Calls_1 rest_1 Pre_1 launch0 p0 e0 about1 theMethod args0 below0 :=
  ⟨lists_1, trivial, launch0.admits_env _ _ _, launch0.least_env, fairChoices_fair.cas, fairChoices_fair.clock, w_frames, w_args, w_heap, w_applies, trivial, trivial, w_case⟩
end start1
theorem witness_1 : WitnessClaimed_1 := ⟨start1.p0, start1.e0, start1.about1, start1.theMethod, start1.args0, start1.below0, start1.atStart⟩
end Jvm.Pilot.@@N@@
