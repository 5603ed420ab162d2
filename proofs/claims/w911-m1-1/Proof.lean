import JvmDerived
import JvmDerived.Pilot.@@N@@Statement
import JvmDerived.Pilot.@@N@@Code
set_option linter.unusedVariables false
set_option linter.unusedSimpArgs false
@@BLOCK:NumsL.lean.txt@@
namespace Jvm.Pilot.@@N@@
open Jvm Jvm.ClassFile Sem Op Lib Jvm.Free Jvm.Stand Jvm.LawKit Jvm.RoadKit Bundle Jvm.Pilot.@@N@@.Jvm.D
/-- from the state A the run comes to a return of which Q holds -/
def Go (tb : Tables) (e : Env) (below : List Frame) (s : State) (C S : Nat) (Q : Option Value → Heap → List Loc → Prop) (A : State) : Prop :=
  ∃ s₂ o, Steps tb e below A s₂ ∧ s₂.status = .running ∧ Ended s₂ below o ∧ ∃ v L, o = .returned v ∧ Q v s₂.heap L ∧ FrameEnd s o s₂ L C S
theorem go {tb : Tables} {e : Env} {below : List Frame} {s A B : State} {C S : Nat} {Q : Option Value → Heap → List Loc → Prop} (st : ∀ t, Steps tb e below B t → Steps tb e below A t) (h : Go tb e below s C S Q B) : Go tb e below s C S Q A := by
  obtain ⟨s₂, o, h1, h2⟩ := h
  exact ⟨s₂, o, st _ h1, h2⟩
section Rets
variable {p : Program} {l : Launch} {e : Env} {R : Room} {s : State} {m : MethodId} {args : Array Value} {below : List Frame} {meth : Method} {c : Code} {T : State} {locs : List Loc} {cells slots : Nat} {C S : Nat} {Q : Option Value → Heap → List Loc → Prop} {pc : Nat} {Ls : Array Slot} {rest : List Value}
theorem goRetI (X : Stand p l e R s m args below meth c T locs cells slots) (hx : p.tables.exec = Jvm.exec) {z : Int32} (hret : meth.sig.returnType = some .int) (hlk : meth.locks = false) (hd : decode c.code pc = .ok (.ireturn, 1)) (hQ : Q (some (.int z)) T.heap locs) (hc : cells ≤ C) (hs : slots ≤ S) : Go p.tables e below s C S Q (T.setTop (mkF m pc Ls (.int z :: rest))) := by
  obtain ⟨fs, hr, hrun, hended, hW, hsame⟩ := X.leave (v := some (.int z)) (fun h => by rw [hret] at h; cases h) hlk
  exact ⟨_, _, retOut X hx hret rfl (Or.inl ⟨rfl, Or.inl rfl, z, rfl⟩) hd hr, hrun, hended, _, _, rfl, hQ, ⟨_, rfl⟩, hW, hsame.mono hc hs⟩
theorem goRetN (X : Stand p l e R s m args below meth c T locs cells slots) (hx : p.tables.exec = Jvm.exec) {z : Int32} {t : FieldType} (hret : meth.sig.returnType = some t) (ht : t = .boolean ∨ t = .byte ∨ t = .char ∨ t = .short) (hlk : meth.locks = false) (hd : decode c.code pc = .ok (.ireturn, 1)) (hQ : Q (some (.int (nar t z))) T.heap locs) (hc : cells ≤ C) (hs : slots ≤ S) : Go p.tables e below s C S Q (T.setTop (mkF m pc Ls (.int z :: rest))) := by
  obtain ⟨fs, hr, hrun, hended, hW, hsame⟩ := X.leave (v := some (.int (nar t z))) (fun h => by rw [hret] at h; cases h) hlk
  exact ⟨_, _, retN X hx hret ht hd hr, hrun, hended, _, _, rfl, hQ, ⟨_, rfl⟩, hW, hsame.mono hc hs⟩
theorem goRetL (X : Stand p l e R s m args below meth c T locs cells slots) (hx : p.tables.exec = Jvm.exec) {z : Int64} (hret : meth.sig.returnType = some .long) (hlk : meth.locks = false) (hd : decode c.code pc = .ok (.lreturn, 1)) (hQ : Q (some (.long z)) T.heap locs) (hc : cells ≤ C) (hs : slots ≤ S) : Go p.tables e below s C S Q (T.setTop (mkF m pc Ls (.long z :: rest))) := by
  obtain ⟨fs, hr, hrun, hended, hW, hsame⟩ := X.leave (v := some (.long z)) (fun h => by rw [hret] at h; cases h) hlk
  exact ⟨_, _, retOut X hx hret rfl (Or.inr (Or.inl ⟨rfl, rfl, z, rfl⟩)) hd hr, hrun, hended, _, _, rfl, hQ, ⟨_, rfl⟩, hW, hsame.mono hc hs⟩
theorem goRetR (X : Stand p l e R s m args below meth c T locs cells slots) (hx : p.tables.exec = Jvm.exec) {a : Addr} {t : FieldType} (hret : meth.sig.returnType = some t) (ht : t.isReference = true) (hlk : meth.locks = false) (hd : decode c.code pc = .ok (.areturn, 1)) (hQ : Q (some (.ref a)) T.heap locs) (hc : cells ≤ C) (hs : slots ≤ S) : Go p.tables e below s C S Q (T.setTop (mkF m pc Ls (.ref a :: rest))) := by
  obtain ⟨fs, hr, hrun, hended, hW, hsame⟩ := X.leave (v := some (.ref a)) (fun h => by rw [hret] at h; cases h) hlk
  exact ⟨_, _, retOut X hx hret (by cases t <;> first | rfl | cases ht) (Or.inr (Or.inr (Or.inr (Or.inr ⟨rfl, ht, rfl⟩)))) hd hr, hrun, hended, _, _, rfl, hQ, ⟨_, rfl⟩, hW, hsame.mono hc hs⟩
theorem goRetV (X : Stand p l e R s m args below meth c T locs cells slots) (hx : p.tables.exec = Jvm.exec) (hret : meth.sig.returnType = none) (hlk : meth.locks = false) (hd : decode c.code pc = .ok (.return_, 1)) (hQ : Q none T.heap locs) (hc : cells ≤ C) (hs : slots ≤ S) : Go p.tables e below s C S Q (T.setTop (mkF m pc Ls [])) := by
  obtain ⟨fs, hr, hrun, hended, hW, hsame⟩ := X.leave (v := none) (fun _ => rfl) hlk
  exact ⟨_, _, X.returnOut hx hret hd hr, hrun, hended, _, _, rfl, hQ, ⟨_, rfl⟩, hW, hsame.mono hc hs⟩
end Rets
theorem lc_lt_yes {x y : Int64} (h : x < y) : ifCond.holds .lt (lcmpW x y) = true := by
  have h1 : ¬ y < x := by rw [Int64.lt_iff_toInt_lt] at h ⊢; omega
  have h2 : ¬ x = y := fun q => by subst q; rw [Int64.lt_iff_toInt_lt] at h; omega
  simp [lcmpW, h1, h2]; decide
theorem lc_lt_no {x y : Int64} (h : ¬ x < y) : ifCond.holds .lt (lcmpW x y) = false := by
  by_cases h1 : y < x
  · simp [lcmpW, h1]; decide
  · have h2 : x = y := by rw [← Int64.toInt_inj]; rw [Int64.lt_iff_toInt_lt] at h h1; omega
    simp [lcmpW, h1, h2]; decide
theorem lc_ge_no {x y : Int64} (h : x < y) : ifCond.holds .ge (lcmpW x y) = false := by
  have h1 : ¬ y < x := by rw [Int64.lt_iff_toInt_lt] at h ⊢; omega
  have h2 : ¬ x = y := fun q => by subst q; rw [Int64.lt_iff_toInt_lt] at h; omega
  simp [lcmpW, h1, h2]; decide
theorem lc_ge_yes {x y : Int64} (h : ¬ x < y) : ifCond.holds .ge (lcmpW x y) = true := by
  by_cases h1 : y < x
  · simp [lcmpW, h1]; decide
  · have h2 : x = y := by rw [← Int64.toInt_inj]; rw [Int64.lt_iff_toInt_lt] at h h1; omega
    simp [lcmpW, h1, h2]; decide
theorem lc_gt_yes {x y : Int64} (h : y < x) : ifCond.holds .gt (lcmpW x y) = true := by
  simp [lcmpW, h]; decide
theorem lc_gt_no {x y : Int64} (h : ¬ y < x) : ifCond.holds .gt (lcmpW x y) = false := by
  by_cases h2 : x = y <;> simp [lcmpW, h, h2] <;> decide
theorem lc_le_no {x y : Int64} (h : y < x) : ifCond.holds .le (lcmpW x y) = false := by
  simp [lcmpW, h]; decide
theorem lc_le_yes {x y : Int64} (h : ¬ y < x) : ifCond.holds .le (lcmpW x y) = true := by
  by_cases h2 : x = y <;> simp [lcmpW, h, h2] <;> decide
theorem lc_eq_yes {x y : Int64} (h : x = y) : ifCond.holds .eq (lcmpW x y) = true := by
  subst h; simp [lcmpW]; decide
theorem lc_eq_no {x y : Int64} (h : ¬ x = y) : ifCond.holds .eq (lcmpW x y) = false := by
  by_cases h1 : y < x <;> simp [lcmpW, h, h1] <;> decide
theorem lc_ne_no {x y : Int64} (h : x = y) : ifCond.holds .ne (lcmpW x y) = false := by
  subst h; simp [lcmpW]; decide
theorem lc_ne_yes {x y : Int64} (h : ¬ x = y) : ifCond.holds .ne (lcmpW x y) = true := by
  by_cases h1 : y < x <;> simp [lcmpW, h, h1] <;> decide
def fMx (a b : Int32) : Int32 := if a < b then b else a
theorem fMx_int (a b : Int32) : ((fMx a b).toInt = b.toInt ∧ a.toInt < b.toInt) ∨ ((fMx a b).toInt = a.toInt ∧ ¬ a.toInt < b.toInt) := by
  unfold fMx
  by_cases h : a < b
  · rw [if_pos h]; exact Or.inl ⟨rfl, Int32.lt_iff_toInt_lt.mp h⟩
  · rw [if_neg h]; exact Or.inr ⟨rfl, fun q => h (Int32.lt_iff_toInt_lt.mpr q)⟩
def fMn (a b : Int32) : Int32 := if b < a then b else a
theorem fMn_int (a b : Int32) : ((fMn a b).toInt = b.toInt ∧ b.toInt < a.toInt) ∨ ((fMn a b).toInt = a.toInt ∧ ¬ b.toInt < a.toInt) := by
  unfold fMn
  by_cases h : b < a
  · rw [if_pos h]; exact Or.inl ⟨rfl, Int32.lt_iff_toInt_lt.mp h⟩
  · rw [if_neg h]; exact Or.inr ⟨rfl, fun q => h (Int32.lt_iff_toInt_lt.mpr q)⟩
def fP (v : Int64) : Int32 := (((v.toUInt64 >>> ((32 : Int32) &&& 0x3f).toInt64.toUInt64).toInt64).toInt32) &&& (2147483647 : Int32)
def fQ (v : Int64) : Int32 := (v.toInt32) &&& (2147483647 : Int32)
def fLo (v : Int64) : Int32 := fMn (fP v) (fQ v)
def fHi (v : Int64) : Int32 := fMx (fP v) (fQ v)
theorem lo_hi (v : Int64) : 0 ≤ (fLo v).toInt ∧ (fLo v).toInt ≤ (fHi v).toInt := by
  have e1 : (fP v).toInt = (((v.toUInt64 >>> ((32 : Int32) &&& 0x3f).toInt64.toUInt64).toInt64).toInt32).toInt % 2 ^ 31 := Jvm.Kit.i32_mask _ _ (k := 31) (by decide) (by decide)
  have e2 : (fQ v).toInt = (v.toInt32).toInt % 2 ^ 31 := Jvm.Kit.i32_mask _ _ (k := 31) (by decide) (by decide)
  have q1 := fMn_int (fP v) (fQ v)
  have q2 := fMx_int (fP v) (fQ v)
  unfold fLo fHi
  omega
def fIn (p1 : Int32) (p2 : Int32) (p3 : Int32) : Int32 := if p2.toInt ≤ p1.toInt ∧ p1.toInt ≤ p3.toInt then 1 else 0
theorem fIn_one {p1 : Int32} {p2 : Int32} {p3 : Int32} (h : p2.toInt ≤ p1.toInt ∧ p1.toInt ≤ p3.toInt) : fIn p1 p2 p3 = 1 := if_pos h
theorem fIn_zero {p1 : Int32} {p2 : Int32} {p3 : Int32} (h : ¬ (p2.toInt ≤ p1.toInt ∧ p1.toInt ≤ p3.toInt)) : fIn p1 p2 p3 = 0 := if_neg h
theorem fIn_int (p1 : Int32) (p2 : Int32) (p3 : Int32) : ((fIn p1 p2 p3).toInt = 1 ∧ (p2.toInt ≤ p1.toInt ∧ p1.toInt ≤ p3.toInt)) ∨ ((fIn p1 p2 p3).toInt = 0 ∧ ¬ (p2.toInt ≤ p1.toInt ∧ p1.toInt ≤ p3.toInt)) := by
  by_cases h : p2.toInt ≤ p1.toInt ∧ p1.toInt ≤ p3.toInt
  · exact Or.inl ⟨by rw [fIn_one h]; rfl, h⟩
  · exact Or.inr ⟨by rw [fIn_zero h]; rfl, h⟩
def fOv (f1 : Int32) (l1 : Int32) (r1 : Int32) (s1 : Int32) (f2 : Int32) (l2 : Int32) (r2 : Int32) (s2 : Int32) : Int32 := if f1.toInt ≤ l2.toInt ∧ f2.toInt ≤ l1.toInt ∧ r1.toInt ≤ s2.toInt ∧ r2.toInt ≤ s1.toInt then 1 else 0
theorem fOv_one {f1 : Int32} {l1 : Int32} {r1 : Int32} {s1 : Int32} {f2 : Int32} {l2 : Int32} {r2 : Int32} {s2 : Int32} (h : f1.toInt ≤ l2.toInt ∧ f2.toInt ≤ l1.toInt ∧ r1.toInt ≤ s2.toInt ∧ r2.toInt ≤ s1.toInt) : fOv f1 l1 r1 s1 f2 l2 r2 s2 = 1 := if_pos h
theorem fOv_zero {f1 : Int32} {l1 : Int32} {r1 : Int32} {s1 : Int32} {f2 : Int32} {l2 : Int32} {r2 : Int32} {s2 : Int32} (h : ¬ (f1.toInt ≤ l2.toInt ∧ f2.toInt ≤ l1.toInt ∧ r1.toInt ≤ s2.toInt ∧ r2.toInt ≤ s1.toInt)) : fOv f1 l1 r1 s1 f2 l2 r2 s2 = 0 := if_neg h
theorem fOv_int (f1 : Int32) (l1 : Int32) (r1 : Int32) (s1 : Int32) (f2 : Int32) (l2 : Int32) (r2 : Int32) (s2 : Int32) : ((fOv f1 l1 r1 s1 f2 l2 r2 s2).toInt = 1 ∧ (f1.toInt ≤ l2.toInt ∧ f2.toInt ≤ l1.toInt ∧ r1.toInt ≤ s2.toInt ∧ r2.toInt ≤ s1.toInt)) ∨ ((fOv f1 l1 r1 s1 f2 l2 r2 s2).toInt = 0 ∧ ¬ (f1.toInt ≤ l2.toInt ∧ f2.toInt ≤ l1.toInt ∧ r1.toInt ≤ s2.toInt ∧ r2.toInt ≤ s1.toInt)) := by
  by_cases h : f1.toInt ≤ l2.toInt ∧ f2.toInt ≤ l1.toInt ∧ r1.toInt ≤ s2.toInt ∧ r2.toInt ≤ s1.toInt
  · exact Or.inl ⟨by rw [fOv_one h]; rfl, h⟩
  · exact Or.inr ⟨by rw [fOv_zero h]; rfl, h⟩
theorem ef_rm6 (m : MethodId) (p1 : Int32) (p2 : Int32) : entryFrame m #[(.int p1), (.int p2)] 2 = mkF m 0 #[.val (.int p1), .val (.int p2)] [] := by first | (simp [entryFrame, mkF, argsToLocals, Value.category]; done) | rfl
def Q6 (Z : State) (p1 : Int32) (p2 : Int32) (h0 : Heap) (n0 : Nat) (v : Option Value) (h : Heap) (L : List Loc) : Prop := v = some (.int (fMx p1 p2)) ∧ Fr n0 L ∧ h = h0
theorem d6_0 : decode jdk_29_method_65_code 0 = .ok (.iload_n 0, 1) := by decide +kernel
theorem d6_1 : decode jdk_29_method_65_code 1 = .ok (.iload_n 1, 1) := by decide +kernel
theorem d6_2 : decode jdk_29_method_65_code 2 = .ok (.if_icmp .lt 7, 3) := by decide +kernel
theorem d6_9 : decode jdk_29_method_65_code 9 = .ok (.iload_n 1, 1) := by decide +kernel
theorem d6_10 : decode jdk_29_method_65_code 10 = .ok (.ireturn, 1) := by decide +kernel
theorem d6_5 : decode jdk_29_method_65_code 5 = .ok (.iload_n 0, 1) := by decide +kernel
theorem d6_6 : decode jdk_29_method_65_code 6 = .ok (.goto 4, 3) := by decide +kernel
set_option maxRecDepth 65536 in
set_option maxHeartbeats 40000000 in
theorem rm6 (l : Launch) (Z : State) (a0 : Array Value) (hw : ∀ d ∈ tables_1, d.before a0 Z = true) (ws : List Jvm.Cond) (p1 : Int32) (p2 : Int32) (h0 : Heap) (n0 : Nat) (Z0 : n0 ≤ h0.size) :
    MetFree l (⟨"java/lang/Math", "max", "(II)I"⟩ : MethodName) (head1 (Jvm.Cond.code (⟨"java/lang/Math", "max", "(II)I"⟩ : MethodName) jdk_29_method_65_code 2 (some .int) :: ws) ({ frames := 0, cells := 0, slots := 0, locals := 0 } : Room)) (fun a U => a = #[(.int p1), (.int p2)] ∧ Z.Warmed39 U.vm ∧ U.heap = h0) (fun _ _ _ _ _ => True) (fun _ U o U' => ∃ v L, o = .returned v ∧ Q6 Z p1 p2 h0 n0 v U'.heap L ∧ FrameEnd U o U' L ({ frames := 0, cells := 0, slots := 0, locals := 0 } : Room).cells ({ frames := 0, cells := 0, slots := 0, locals := 0 } : Room).slots) := by
  refine MetFree.of_bodySF (Jvm.Free.JP.mathPlain rfl (by decide +kernel)) hisR ?_
  intro p e s m args below meth c s₁ Bd hml0 hP hK
  obtain ⟨rfl, hZ, hh⟩ := hP
  have hx := Bd.exec
  have hby := Bd.bytes
  have hml : c.maxLocals = 2 := hml0
  have hown : s.vm.findClass "java/lang/Math" = some m.cls := findClass_of_methodNamed Bd.named
  have hnm := (name_of_methodNamed Bd.named Bd.method).1
  have hlk := Bd.notSynchronized
  have X0 : Stand p l e ({ frames := 0, cells := 0, slots := 0, locals := 0 } : Room) s m #[(.int p1), (.int p2)] below meth c s₁ [] 0 0 := Stand.of_body Bd
  have e0 : s₁.heap = h0 := by rw [← hh, Bd.state]; rfl
  have N0 := Fr.nil n0
  show Go p.tables e below s ({ frames := 0, cells := 0, slots := 0, locals := 0 } : Room).cells ({ frames := 0, cells := 0, slots := 0, locals := 0 } : Room).slots (Q6 Z p1 p2 h0 n0) _
  refine go (fun t k => castTop (ef_rm6 m p1 p2) k) ?_
  refine go (B := s₁.setTop (mkF m 1 #[.val (.int p1), .val (.int p2)] [(.int p1)])) (fun _ k => XS.iloadN X0.here hx rfl (hb hby d6_0) rfl k) ?_
  refine go (B := s₁.setTop (mkF m 2 #[.val (.int p1), .val (.int p2)] [(.int p2), (.int p1)])) (fun _ k => XS.iloadN X0.here hx rfl (hb hby d6_1) rfl k) ?_
  by_cases hc2 : p1 < p2
  · refine go (B := s₁.setTop (mkF m 9 #[.val (.int p1), .val (.int p2)] [])) (fun _ k => XS.icmpYes X0.here hx rfl (pc0 := 2) (pc' := 9) rfl (hb hby d6_2) rfl (tlt hc2).1 (by decide) (by decide) k) ?_
    refine go (B := s₁.setTop (mkF m 10 #[.val (.int p1), .val (.int p2)] [(.int p2)])) (fun _ k => XS.iloadN X0.here hx rfl (hb hby d6_9) rfl k) ?_
    refine goRetI X0 hx Bd.returns hlk (hb hby d6_10) ?_ (by decide) (by decide)
    rw [e0]
    exact ⟨by rw [fMx, if_pos hc2], N0, rfl⟩
  · refine go (B := s₁.setTop (mkF m 5 #[.val (.int p1), .val (.int p2)] [])) (fun _ k => XS.icmpNo X0.here hx rfl (hb hby d6_2) rfl (flt hc2).1 k) ?_
    refine go (B := s₁.setTop (mkF m 6 #[.val (.int p1), .val (.int p2)] [(.int p1)])) (fun _ k => XS.iloadN X0.here hx rfl (hb hby d6_5) rfl k) ?_
    refine go (B := s₁.setTop (mkF m 10 #[.val (.int p1), .val (.int p2)] [(.int p1)])) (fun _ k => XS.goto X0.here hx rfl (pc0 := 6) (pc' := 10) rfl (hb hby d6_6) (by decide) (by decide) k) ?_
    refine goRetI X0 hx Bd.returns hlk (hb hby d6_10) ?_ (by decide) (by decide)
    rw [e0]
    exact ⟨by rw [fMx, if_neg hc2], N0, rfl⟩
theorem ef_rm4 (m : MethodId) (p1 : Int32) (p2 : Int32) : entryFrame m #[(.int p1), (.int p2)] 2 = mkF m 0 #[.val (.int p1), .val (.int p2)] [] := by first | (simp [entryFrame, mkF, argsToLocals, Value.category]; done) | rfl
def Q4 (Z : State) (p1 : Int32) (p2 : Int32) (h0 : Heap) (n0 : Nat) (v : Option Value) (h : Heap) (L : List Loc) : Prop := v = some (.int (fMn p1 p2)) ∧ Fr n0 L ∧ h = h0
theorem d4_0 : decode jdk_29_method_69_code 0 = .ok (.iload_n 0, 1) := by decide +kernel
theorem d4_1 : decode jdk_29_method_69_code 1 = .ok (.iload_n 1, 1) := by decide +kernel
theorem d4_2 : decode jdk_29_method_69_code 2 = .ok (.if_icmp .gt 7, 3) := by decide +kernel
theorem d4_9 : decode jdk_29_method_69_code 9 = .ok (.iload_n 1, 1) := by decide +kernel
theorem d4_10 : decode jdk_29_method_69_code 10 = .ok (.ireturn, 1) := by decide +kernel
theorem d4_5 : decode jdk_29_method_69_code 5 = .ok (.iload_n 0, 1) := by decide +kernel
theorem d4_6 : decode jdk_29_method_69_code 6 = .ok (.goto 4, 3) := by decide +kernel
set_option maxRecDepth 65536 in
set_option maxHeartbeats 40000000 in
theorem rm4 (l : Launch) (Z : State) (a0 : Array Value) (hw : ∀ d ∈ tables_1, d.before a0 Z = true) (ws : List Jvm.Cond) (p1 : Int32) (p2 : Int32) (h0 : Heap) (n0 : Nat) (Z0 : n0 ≤ h0.size) :
    MetFree l (⟨"java/lang/Math", "min", "(II)I"⟩ : MethodName) (head1 (Jvm.Cond.code (⟨"java/lang/Math", "min", "(II)I"⟩ : MethodName) jdk_29_method_69_code 2 (some .int) :: ws) ({ frames := 0, cells := 0, slots := 0, locals := 0 } : Room)) (fun a U => a = #[(.int p1), (.int p2)] ∧ Z.Warmed39 U.vm ∧ U.heap = h0) (fun _ _ _ _ _ => True) (fun _ U o U' => ∃ v L, o = .returned v ∧ Q4 Z p1 p2 h0 n0 v U'.heap L ∧ FrameEnd U o U' L ({ frames := 0, cells := 0, slots := 0, locals := 0 } : Room).cells ({ frames := 0, cells := 0, slots := 0, locals := 0 } : Room).slots) := by
  refine MetFree.of_bodySF (Jvm.Free.JP.mathPlain rfl (by decide +kernel)) hisR ?_
  intro p e s m args below meth c s₁ Bd hml0 hP hK
  obtain ⟨rfl, hZ, hh⟩ := hP
  have hx := Bd.exec
  have hby := Bd.bytes
  have hml : c.maxLocals = 2 := hml0
  have hown : s.vm.findClass "java/lang/Math" = some m.cls := findClass_of_methodNamed Bd.named
  have hnm := (name_of_methodNamed Bd.named Bd.method).1
  have hlk := Bd.notSynchronized
  have X0 : Stand p l e ({ frames := 0, cells := 0, slots := 0, locals := 0 } : Room) s m #[(.int p1), (.int p2)] below meth c s₁ [] 0 0 := Stand.of_body Bd
  have e0 : s₁.heap = h0 := by rw [← hh, Bd.state]; rfl
  have N0 := Fr.nil n0
  show Go p.tables e below s ({ frames := 0, cells := 0, slots := 0, locals := 0 } : Room).cells ({ frames := 0, cells := 0, slots := 0, locals := 0 } : Room).slots (Q4 Z p1 p2 h0 n0) _
  refine go (fun t k => castTop (ef_rm4 m p1 p2) k) ?_
  refine go (B := s₁.setTop (mkF m 1 #[.val (.int p1), .val (.int p2)] [(.int p1)])) (fun _ k => XS.iloadN X0.here hx rfl (hb hby d4_0) rfl k) ?_
  refine go (B := s₁.setTop (mkF m 2 #[.val (.int p1), .val (.int p2)] [(.int p2), (.int p1)])) (fun _ k => XS.iloadN X0.here hx rfl (hb hby d4_1) rfl k) ?_
  by_cases hc2 : p2 < p1
  · refine go (B := s₁.setTop (mkF m 9 #[.val (.int p1), .val (.int p2)] [])) (fun _ k => XS.icmpYes X0.here hx rfl (pc0 := 2) (pc' := 9) rfl (hb hby d4_2) rfl (tlt hc2).2.2.1 (by decide) (by decide) k) ?_
    refine go (B := s₁.setTop (mkF m 10 #[.val (.int p1), .val (.int p2)] [(.int p2)])) (fun _ k => XS.iloadN X0.here hx rfl (hb hby d4_9) rfl k) ?_
    refine goRetI X0 hx Bd.returns hlk (hb hby d4_10) ?_ (by decide) (by decide)
    rw [e0]
    exact ⟨by rw [fMn, if_pos hc2], N0, rfl⟩
  · refine go (B := s₁.setTop (mkF m 5 #[.val (.int p1), .val (.int p2)] [])) (fun _ k => XS.icmpNo X0.here hx rfl (hb hby d4_2) rfl (flt hc2).2.2.1 k) ?_
    refine go (B := s₁.setTop (mkF m 6 #[.val (.int p1), .val (.int p2)] [(.int p1)])) (fun _ k => XS.iloadN X0.here hx rfl (hb hby d4_5) rfl k) ?_
    refine go (B := s₁.setTop (mkF m 10 #[.val (.int p1), .val (.int p2)] [(.int p1)])) (fun _ k => XS.goto X0.here hx rfl (pc0 := 6) (pc' := 10) rfl (hb hby d4_6) (by decide) (by decide) k) ?_
    refine goRetI X0 hx Bd.returns hlk (hb hby d4_10) ?_ (by decide) (by decide)
    rw [e0]
    exact ⟨by rw [fMn, if_neg hc2], N0, rfl⟩
theorem pn_com_example_eel_river_eelriver_space_CellRangeOverlapsPinLaw : plainName "com/example/eel_river/eelriver/space/CellRangeOverlapsPinLaw" = true := by first | (simp [plainName, overriddenIn]; done) | decide +kernel
theorem ef_rm2 (m : MethodId) (q1 : Int64) : entryFrame m #[(.long q1)] 2 = mkF m 0 #[.val (.long q1), .second] [] := by first | (simp [entryFrame, mkF, argsToLocals, Value.category]; done) | rfl
def Q2 (Z : State) (q1 : Int64) (h0 : Heap) (n0 : Nat) (v : Option Value) (h : Heap) (L : List Loc) : Prop := v = some (.int (fP q1)) ∧ Fr n0 L ∧ h = h0
theorem d2_0 : decode method_3_code 0 = .ok (.lload_n 0, 1) := by decide +kernel
theorem d2_1 : decode method_3_code 1 = .ok (.bipush 32, 2) := by decide +kernel
theorem d2_3 : decode method_3_code 3 = .ok (.lushr, 1) := by decide +kernel
theorem d2_4 : decode method_3_code 4 = .ok (.l2i, 1) := by decide +kernel
theorem d2_5 : decode method_3_code 5 = .ok (.ldc 35, 2) := by decide +kernel
theorem d2_7 : decode method_3_code 7 = .ok (.iand, 1) := by decide +kernel
theorem d2_8 : decode method_3_code 8 = .ok (.ireturn, 1) := by decide +kernel
set_option maxRecDepth 65536 in
set_option maxHeartbeats 40000000 in
theorem rm2 (l : Launch) (Z : State) (a0 : Array Value) (hw : ∀ d ∈ tables_1, d.before a0 Z = true) (ws : List Jvm.Cond) (q1 : Int64) (h0 : Heap) (n0 : Nat) (Z0 : n0 ≤ h0.size) :
    MetFree l (⟨"com/example/eel_river/eelriver/space/CellRangeOverlapsPinLaw", "p", "(J)I"⟩ : MethodName) (head1 (Jvm.Cond.code (⟨"com/example/eel_river/eelriver/space/CellRangeOverlapsPinLaw", "p", "(J)I"⟩ : MethodName) method_3_code 2 (some .int) :: ws) ({ frames := 0, cells := 0, slots := 0, locals := 0 } : Room)) (fun a U => a = #[(.long q1)] ∧ Z.Warmed39 U.vm ∧ U.heap = h0) (fun _ _ _ _ _ => True) (fun _ U o U' => ∃ v L, o = .returned v ∧ Q2 Z q1 h0 n0 v U'.heap L ∧ FrameEnd U o U' L ({ frames := 0, cells := 0, slots := 0, locals := 0 } : Room).cells ({ frames := 0, cells := 0, slots := 0, locals := 0 } : Room).slots) := by
  refine MetFree.of_bodySF (plainFor_of_name pn_com_example_eel_river_eelriver_space_CellRangeOverlapsPinLaw) hisR ?_
  intro p e s m args below meth c s₁ Bd hml0 hP hK
  obtain ⟨rfl, hZ, hh⟩ := hP
  have hx := Bd.exec
  have hby := Bd.bytes
  have hml : c.maxLocals = 2 := hml0
  have hown : s.vm.findClass "com/example/eel_river/eelriver/space/CellRangeOverlapsPinLaw" = some m.cls := findClass_of_methodNamed Bd.named
  have hnm := (name_of_methodNamed Bd.named Bd.method).1
  have hlk := Bd.notSynchronized
  have X0 : Stand p l e ({ frames := 0, cells := 0, slots := 0, locals := 0 } : Room) s m #[(.long q1)] below meth c s₁ [] 0 0 := Stand.of_body Bd
  have e0 : s₁.heap = h0 := by rw [← hh, Bd.state]; rfl
  have N0 := Fr.nil n0
  show Go p.tables e below s ({ frames := 0, cells := 0, slots := 0, locals := 0 } : Room).cells ({ frames := 0, cells := 0, slots := 0, locals := 0 } : Room).slots (Q2 Z q1 h0 n0) _
  refine go (fun t k => castTop (ef_rm2 m q1) k) ?_
  refine go (B := s₁.setTop (mkF m 1 #[.val (.long q1), .second] [(.long q1)])) (fun _ k => XS.lloadN X0.here hx rfl (hb hby d2_0) rfl k) ?_
  refine go (B := s₁.setTop (mkF m 3 #[.val (.long q1), .second] [(.int (32 : Int32)), (.long q1)])) (fun _ k => XS.bipush X0.here hx rfl (hb hby d2_1) k) ?_
  refine go (B := s₁.setTop (mkF m 4 #[.val (.long q1), .second] [(.long ((q1.toUInt64 >>> ((32 : Int32) &&& 0x3f).toInt64.toUInt64).toInt64))])) (fun _ k => XS.lushr X0.here hx rfl (hb hby d2_3) rfl k) ?_
  refine go (B := s₁.setTop (mkF m 5 #[.val (.long q1), .second] [(.int (((q1.toUInt64 >>> ((32 : Int32) &&& 0x3f).toInt64.toUInt64).toInt64).toInt32))])) (fun _ k => XS.l2i X0.here hx rfl (hb hby d2_4) rfl k) ?_
  refine go (B := s₁.setTop (mkF m 7 #[.val (.long q1), .second] [(.int (2147483647 : Int32)), (.int (((q1.toUInt64 >>> ((32 : Int32) &&& 0x3f).toInt64.toUInt64).toInt64).toInt32))])) (fun _ k => X0.ldcInt hx hown (mvT hZ (hw _ (List.mem_of_getElem? (i := 7) rfl))) (g := (mkF m 5 #[.val (.long q1), .second] [(.int (((q1.toUInt64 >>> ((32 : Int32) &&& 0x3f).toInt64.toUInt64).toInt64).toInt32))])) rfl (hb hby d2_5) _ k) ?_
  refine go (B := s₁.setTop (mkF m 8 #[.val (.long q1), .second] [(.int ((((q1.toUInt64 >>> ((32 : Int32) &&& 0x3f).toInt64.toUInt64).toInt64).toInt32) &&& (2147483647 : Int32)))])) (fun _ k => XS.iand X0.here hx rfl (hb hby d2_7) rfl k) ?_
  refine goRetI X0 hx Bd.returns hlk (hb hby d2_8) ?_ (by decide) (by decide)
  rw [e0]
  exact ⟨rfl, N0, rfl⟩
theorem ef_rm3 (m : MethodId) (q1 : Int64) : entryFrame m #[(.long q1)] 2 = mkF m 0 #[.val (.long q1), .second] [] := by first | (simp [entryFrame, mkF, argsToLocals, Value.category]; done) | rfl
def Q3 (Z : State) (q1 : Int64) (h0 : Heap) (n0 : Nat) (v : Option Value) (h : Heap) (L : List Loc) : Prop := v = some (.int (fQ q1)) ∧ Fr n0 L ∧ h = h0
theorem d3_0 : decode method_4_code 0 = .ok (.lload_n 0, 1) := by decide +kernel
theorem d3_1 : decode method_4_code 1 = .ok (.l2i, 1) := by decide +kernel
theorem d3_2 : decode method_4_code 2 = .ok (.ldc 35, 2) := by decide +kernel
theorem d3_4 : decode method_4_code 4 = .ok (.iand, 1) := by decide +kernel
theorem d3_5 : decode method_4_code 5 = .ok (.ireturn, 1) := by decide +kernel
set_option maxRecDepth 65536 in
set_option maxHeartbeats 40000000 in
theorem rm3 (l : Launch) (Z : State) (a0 : Array Value) (hw : ∀ d ∈ tables_1, d.before a0 Z = true) (ws : List Jvm.Cond) (q1 : Int64) (h0 : Heap) (n0 : Nat) (Z0 : n0 ≤ h0.size) :
    MetFree l (⟨"com/example/eel_river/eelriver/space/CellRangeOverlapsPinLaw", "q", "(J)I"⟩ : MethodName) (head1 (Jvm.Cond.code (⟨"com/example/eel_river/eelriver/space/CellRangeOverlapsPinLaw", "q", "(J)I"⟩ : MethodName) method_4_code 2 (some .int) :: ws) ({ frames := 0, cells := 0, slots := 0, locals := 0 } : Room)) (fun a U => a = #[(.long q1)] ∧ Z.Warmed39 U.vm ∧ U.heap = h0) (fun _ _ _ _ _ => True) (fun _ U o U' => ∃ v L, o = .returned v ∧ Q3 Z q1 h0 n0 v U'.heap L ∧ FrameEnd U o U' L ({ frames := 0, cells := 0, slots := 0, locals := 0 } : Room).cells ({ frames := 0, cells := 0, slots := 0, locals := 0 } : Room).slots) := by
  refine MetFree.of_bodySF (plainFor_of_name pn_com_example_eel_river_eelriver_space_CellRangeOverlapsPinLaw) hisR ?_
  intro p e s m args below meth c s₁ Bd hml0 hP hK
  obtain ⟨rfl, hZ, hh⟩ := hP
  have hx := Bd.exec
  have hby := Bd.bytes
  have hml : c.maxLocals = 2 := hml0
  have hown : s.vm.findClass "com/example/eel_river/eelriver/space/CellRangeOverlapsPinLaw" = some m.cls := findClass_of_methodNamed Bd.named
  have hnm := (name_of_methodNamed Bd.named Bd.method).1
  have hlk := Bd.notSynchronized
  have X0 : Stand p l e ({ frames := 0, cells := 0, slots := 0, locals := 0 } : Room) s m #[(.long q1)] below meth c s₁ [] 0 0 := Stand.of_body Bd
  have e0 : s₁.heap = h0 := by rw [← hh, Bd.state]; rfl
  have N0 := Fr.nil n0
  show Go p.tables e below s ({ frames := 0, cells := 0, slots := 0, locals := 0 } : Room).cells ({ frames := 0, cells := 0, slots := 0, locals := 0 } : Room).slots (Q3 Z q1 h0 n0) _
  refine go (fun t k => castTop (ef_rm3 m q1) k) ?_
  refine go (B := s₁.setTop (mkF m 1 #[.val (.long q1), .second] [(.long q1)])) (fun _ k => XS.lloadN X0.here hx rfl (hb hby d3_0) rfl k) ?_
  refine go (B := s₁.setTop (mkF m 2 #[.val (.long q1), .second] [(.int (q1.toInt32))])) (fun _ k => XS.l2i X0.here hx rfl (hb hby d3_1) rfl k) ?_
  refine go (B := s₁.setTop (mkF m 4 #[.val (.long q1), .second] [(.int (2147483647 : Int32)), (.int (q1.toInt32))])) (fun _ k => X0.ldcInt hx hown (mvT hZ (hw _ (List.mem_of_getElem? (i := 7) rfl))) (g := (mkF m 2 #[.val (.long q1), .second] [(.int (q1.toInt32))])) rfl (hb hby d3_2) _ k) ?_
  refine go (B := s₁.setTop (mkF m 5 #[.val (.long q1), .second] [(.int ((q1.toInt32) &&& (2147483647 : Int32)))])) (fun _ k => XS.iand X0.here hx rfl (hb hby d3_4) rfl k) ?_
  refine goRetI X0 hx Bd.returns hlk (hb hby d3_5) ?_ (by decide) (by decide)
  rw [e0]
  exact ⟨rfl, N0, rfl⟩
theorem ef_rm1 (m : MethodId) (q1 : Int64) : entryFrame m #[(.long q1)] 2 = mkF m 0 #[.val (.long q1), .second] [] := by first | (simp [entryFrame, mkF, argsToLocals, Value.category]; done) | rfl
def Q1 (Z : State) (q1 : Int64) (h0 : Heap) (n0 : Nat) (v : Option Value) (h : Heap) (L : List Loc) : Prop := v = some (.int (fLo q1)) ∧ Fr n0 L ∧ h = h0
theorem d1_0 : decode method_5_code 0 = .ok (.lload_n 0, 1) := by decide +kernel
theorem d1_1 : decode method_5_code 1 = .ok (.invokestatic 36, 3) := by decide +kernel
theorem pd__J_I : parseMethodDescriptor "(J)I" = some ⟨[.long], some .int⟩ := by decide +kernel
theorem d1_4 : decode method_5_code 4 = .ok (.lload_n 0, 1) := by decide +kernel
theorem d1_5 : decode method_5_code 5 = .ok (.invokestatic 39, 3) := by decide +kernel
theorem d1_8 : decode method_5_code 8 = .ok (.invokestatic 42, 3) := by decide +kernel
theorem pd__II_I : parseMethodDescriptor "(II)I" = some ⟨[.int, .int], some .int⟩ := by decide +kernel
theorem d1_11 : decode method_5_code 11 = .ok (.ireturn, 1) := by decide +kernel
set_option maxRecDepth 65536 in
set_option maxHeartbeats 40000000 in
theorem rm1 (l : Launch) (Z : State) (a0 : Array Value) (hw : ∀ d ∈ tables_1, d.before a0 Z = true) (ws : List Jvm.Cond) (q1 : Int64) (h0 : Heap) (n0 : Nat) (Z0 : n0 ≤ h0.size) :
    MetFree l (⟨"com/example/eel_river/eelriver/space/CellRangeOverlapsPinLaw", "lo", "(J)I"⟩ : MethodName) (head1 (Jvm.Cond.code (⟨"com/example/eel_river/eelriver/space/CellRangeOverlapsPinLaw", "lo", "(J)I"⟩ : MethodName) method_5_code 2 (some .int) :: ws) ({ frames := 1, cells := 0, slots := 0, locals := 20 } : Room)) (fun a U => a = #[(.long q1)] ∧ Z.Warmed39 U.vm ∧ U.heap = h0) (fun _ _ _ _ _ => True) (fun _ U o U' => ∃ v L, o = .returned v ∧ Q1 Z q1 h0 n0 v U'.heap L ∧ FrameEnd U o U' L ({ frames := 1, cells := 0, slots := 0, locals := 20 } : Room).cells ({ frames := 1, cells := 0, slots := 0, locals := 20 } : Room).slots) := by
  refine MetFree.of_bodySF (plainFor_of_name pn_com_example_eel_river_eelriver_space_CellRangeOverlapsPinLaw) hisR ?_
  intro p e s m args below meth c s₁ Bd hml0 hP hK
  obtain ⟨rfl, hZ, hh⟩ := hP
  have hx := Bd.exec
  have hby := Bd.bytes
  have hml : c.maxLocals = 2 := hml0
  have hown : s.vm.findClass "com/example/eel_river/eelriver/space/CellRangeOverlapsPinLaw" = some m.cls := findClass_of_methodNamed Bd.named
  have hnm := (name_of_methodNamed Bd.named Bd.method).1
  have hlk := Bd.notSynchronized
  have X0 : Stand p l e ({ frames := 1, cells := 0, slots := 0, locals := 20 } : Room) s m #[(.long q1)] below meth c s₁ [] 0 0 := Stand.of_body Bd
  have e0 : s₁.heap = h0 := by rw [← hh, Bd.state]; rfl
  have N0 := Fr.nil n0
  show Go p.tables e below s ({ frames := 1, cells := 0, slots := 0, locals := 20 } : Room).cells ({ frames := 1, cells := 0, slots := 0, locals := 20 } : Room).slots (Q1 Z q1 h0 n0) _
  refine go (fun t k => castTop (ef_rm1 m q1) k) ?_
  refine go (B := s₁.setTop (mkF m 1 #[.val (.long q1), .second] [(.long q1)])) (fun _ k => XS.lloadN X0.here hx rfl (hb hby d1_0) rfl k) ?_
  obtain ⟨_, _, ⟨T1, L1, k1, n1⟩, -, X1, ⟨Lc1, hQ1, l1, y1, z1⟩, st1⟩ := Jvm.LawKit.callS X0 hx (y := (⟨"com/example/eel_river/eelriver/space/CellRangeOverlapsPinLaw", "p", "(J)I"⟩ : MethodName)) hown (mvT hZ (hw _ (List.mem_of_getElem? (i := 4) rfl))) (mvT hZ (hw _ (List.mem_of_getElem? (i := 5) rfl))) (mvT hZ (hw _ (List.mem_of_getElem? (i := 2) rfl))) (mvT hZ (hw _ (List.mem_of_getElem? (i := 6) rfl))) (by decide) (backOf (W := 0) (rm2 l Z a0 hw [] q1 h0 n0 Z0) hZ (hw _ (List.mem_of_getElem? (i := 6) rfl)) (hw _ (List.mem_of_getElem? (i := 2) rfl)) (by decide) (by decide)) (g := (mkF m 1 #[.val (.long q1), .second] [(.long q1)])) rfl (by rw [hml]; rfl) (argsL := [(.long q1)]) (rest := []) (lenOf pd__J_I rfl) rfl (by show 2 * 0 + _ ≤ _; exact Nat.le_of_eq rfl) (hb hby d1_1) (fun _ _ => ⟨rfl, e0, (by decide : 0 + 0 ≤ _), (by decide : 0 + 0 ≤ _)⟩)
  dsimp only [Pt.U, Pt.locs, Pt.cells, Pt.slots] at X1 l1 y1 z1 st1 hQ1
  subst l1 y1 z1
  obtain ⟨rfl, N1q, e1⟩ := hQ1
  have N1 := Fr.app N0 N1q
  refine go (B := T1.setTop (mkF m 4 #[.val (.long q1), .second] [(.int (fP q1))])) (fun _ k => st1 _ k) ?_
  refine go (B := T1.setTop (mkF m 5 #[.val (.long q1), .second] [(.long q1), (.int (fP q1))])) (fun _ k => XS.lloadN X1.here hx rfl (hb hby d1_4) rfl k) ?_
  obtain ⟨_, _, ⟨T2, L2, k2, n2⟩, -, X2, ⟨Lc2, hQ2, l2, y2, z2⟩, st2⟩ := Jvm.LawKit.callS X1 hx (y := (⟨"com/example/eel_river/eelriver/space/CellRangeOverlapsPinLaw", "q", "(J)I"⟩ : MethodName)) hown (mvT hZ (hw _ (List.mem_of_getElem? (i := 8) rfl))) (mvT hZ (hw _ (List.mem_of_getElem? (i := 9) rfl))) (mvT hZ (hw _ (List.mem_of_getElem? (i := 2) rfl))) (mvT hZ (hw _ (List.mem_of_getElem? (i := 10) rfl))) (by decide) (backOf (W := 1) (rm3 l Z a0 hw [] q1 h0 n0 Z0) hZ (hw _ (List.mem_of_getElem? (i := 10) rfl)) (hw _ (List.mem_of_getElem? (i := 2) rfl)) (by decide) (by decide)) (g := (mkF m 5 #[.val (.long q1), .second] [(.long q1), (.int (fP q1))])) rfl (by rw [hml]; rfl) (argsL := [(.long q1)]) (rest := [(.int (fP q1))]) (lenOf pd__J_I rfl) rfl (by show 2 * 0 + _ ≤ _; exact Nat.le_of_eq rfl) (hb hby d1_5) (fun _ _ => ⟨rfl, e1, (by decide : 0 + 0 ≤ _), (by decide : 0 + 0 ≤ _)⟩)
  dsimp only [Pt.U, Pt.locs, Pt.cells, Pt.slots] at X2 l2 y2 z2 st2 hQ2
  subst l2 y2 z2
  obtain ⟨rfl, N2q, e2⟩ := hQ2
  have N2 := Fr.app N1 N2q
  refine go (B := T2.setTop (mkF m 8 #[.val (.long q1), .second] [(.int (fQ q1)), (.int (fP q1))])) (fun _ k => st2 _ k) ?_
  obtain ⟨_, _, ⟨T3, L3, k3, n3⟩, -, X3, ⟨Lc3, hQ3, l3, y3, z3⟩, st3⟩ := Jvm.LawKit.callS X2 hx (y := (⟨"java/lang/Math", "min", "(II)I"⟩ : MethodName)) hown (mvT hZ (hw _ (List.mem_of_getElem? (i := 11) rfl))) (mvT hZ (hw _ (List.mem_of_getElem? (i := 12) rfl))) (mvT hZ (hw _ (List.mem_of_getElem? (i := 13) rfl))) (mvT hZ (hw _ (List.mem_of_getElem? (i := 14) rfl))) (by decide) (backOf (W := 0) (rm4 l Z a0 hw [] (fP q1) (fQ q1) h0 n0 Z0) hZ (hw _ (List.mem_of_getElem? (i := 14) rfl)) (hw _ (List.mem_of_getElem? (i := 13) rfl)) (by decide) (by decide)) (g := (mkF m 8 #[.val (.long q1), .second] [(.int (fQ q1)), (.int (fP q1))])) rfl (by rw [hml]; rfl) (argsL := [(.int (fP q1)), (.int (fQ q1))]) (rest := []) (lenOf pd__II_I rfl) rfl (by show 2 * 0 + _ ≤ _; exact Nat.le_of_eq rfl) (hb hby d1_8) (fun _ _ => ⟨rfl, e2, (by decide : 0 + 0 ≤ _), (by decide : 0 + 0 ≤ _)⟩)
  dsimp only [Pt.U, Pt.locs, Pt.cells, Pt.slots] at X3 l3 y3 z3 st3 hQ3
  subst l3 y3 z3
  obtain ⟨rfl, N3q, e3⟩ := hQ3
  have N3 := Fr.app N2 N3q
  refine go (B := T3.setTop (mkF m 11 #[.val (.long q1), .second] [(.int (fMn (fP q1) (fQ q1)))])) (fun _ k => st3 _ k) ?_
  refine goRetI X3 hx Bd.returns hlk (hb hby d1_11) ?_ (by decide) (by decide)
  rw [e3]
  exact ⟨rfl, N3, rfl⟩
theorem ef_rm5 (m : MethodId) (q1 : Int64) : entryFrame m #[(.long q1)] 2 = mkF m 0 #[.val (.long q1), .second] [] := by first | (simp [entryFrame, mkF, argsToLocals, Value.category]; done) | rfl
def Q5 (Z : State) (q1 : Int64) (h0 : Heap) (n0 : Nat) (v : Option Value) (h : Heap) (L : List Loc) : Prop := v = some (.int (fHi q1)) ∧ Fr n0 L ∧ h = h0
theorem d5_0 : decode method_6_code 0 = .ok (.lload_n 0, 1) := by decide +kernel
theorem d5_1 : decode method_6_code 1 = .ok (.invokestatic 36, 3) := by decide +kernel
theorem d5_4 : decode method_6_code 4 = .ok (.lload_n 0, 1) := by decide +kernel
theorem d5_5 : decode method_6_code 5 = .ok (.invokestatic 39, 3) := by decide +kernel
theorem d5_8 : decode method_6_code 8 = .ok (.invokestatic 25, 3) := by decide +kernel
theorem d5_11 : decode method_6_code 11 = .ok (.ireturn, 1) := by decide +kernel
set_option maxRecDepth 65536 in
set_option maxHeartbeats 40000000 in
theorem rm5 (l : Launch) (Z : State) (a0 : Array Value) (hw : ∀ d ∈ tables_1, d.before a0 Z = true) (ws : List Jvm.Cond) (q1 : Int64) (h0 : Heap) (n0 : Nat) (Z0 : n0 ≤ h0.size) :
    MetFree l (⟨"com/example/eel_river/eelriver/space/CellRangeOverlapsPinLaw", "hi", "(J)I"⟩ : MethodName) (head1 (Jvm.Cond.code (⟨"com/example/eel_river/eelriver/space/CellRangeOverlapsPinLaw", "hi", "(J)I"⟩ : MethodName) method_6_code 2 (some .int) :: ws) ({ frames := 1, cells := 0, slots := 0, locals := 20 } : Room)) (fun a U => a = #[(.long q1)] ∧ Z.Warmed39 U.vm ∧ U.heap = h0) (fun _ _ _ _ _ => True) (fun _ U o U' => ∃ v L, o = .returned v ∧ Q5 Z q1 h0 n0 v U'.heap L ∧ FrameEnd U o U' L ({ frames := 1, cells := 0, slots := 0, locals := 20 } : Room).cells ({ frames := 1, cells := 0, slots := 0, locals := 20 } : Room).slots) := by
  refine MetFree.of_bodySF (plainFor_of_name pn_com_example_eel_river_eelriver_space_CellRangeOverlapsPinLaw) hisR ?_
  intro p e s m args below meth c s₁ Bd hml0 hP hK
  obtain ⟨rfl, hZ, hh⟩ := hP
  have hx := Bd.exec
  have hby := Bd.bytes
  have hml : c.maxLocals = 2 := hml0
  have hown : s.vm.findClass "com/example/eel_river/eelriver/space/CellRangeOverlapsPinLaw" = some m.cls := findClass_of_methodNamed Bd.named
  have hnm := (name_of_methodNamed Bd.named Bd.method).1
  have hlk := Bd.notSynchronized
  have X0 : Stand p l e ({ frames := 1, cells := 0, slots := 0, locals := 20 } : Room) s m #[(.long q1)] below meth c s₁ [] 0 0 := Stand.of_body Bd
  have e0 : s₁.heap = h0 := by rw [← hh, Bd.state]; rfl
  have N0 := Fr.nil n0
  show Go p.tables e below s ({ frames := 1, cells := 0, slots := 0, locals := 20 } : Room).cells ({ frames := 1, cells := 0, slots := 0, locals := 20 } : Room).slots (Q5 Z q1 h0 n0) _
  refine go (fun t k => castTop (ef_rm5 m q1) k) ?_
  refine go (B := s₁.setTop (mkF m 1 #[.val (.long q1), .second] [(.long q1)])) (fun _ k => XS.lloadN X0.here hx rfl (hb hby d5_0) rfl k) ?_
  obtain ⟨_, _, ⟨T1, L1, k1, n1⟩, -, X1, ⟨Lc1, hQ1, l1, y1, z1⟩, st1⟩ := Jvm.LawKit.callS X0 hx (y := (⟨"com/example/eel_river/eelriver/space/CellRangeOverlapsPinLaw", "p", "(J)I"⟩ : MethodName)) hown (mvT hZ (hw _ (List.mem_of_getElem? (i := 4) rfl))) (mvT hZ (hw _ (List.mem_of_getElem? (i := 5) rfl))) (mvT hZ (hw _ (List.mem_of_getElem? (i := 2) rfl))) (mvT hZ (hw _ (List.mem_of_getElem? (i := 6) rfl))) (by decide) (backOf (W := 0) (rm2 l Z a0 hw [] q1 h0 n0 Z0) hZ (hw _ (List.mem_of_getElem? (i := 6) rfl)) (hw _ (List.mem_of_getElem? (i := 2) rfl)) (by decide) (by decide)) (g := (mkF m 1 #[.val (.long q1), .second] [(.long q1)])) rfl (by rw [hml]; rfl) (argsL := [(.long q1)]) (rest := []) (lenOf pd__J_I rfl) rfl (by show 2 * 0 + _ ≤ _; exact Nat.le_of_eq rfl) (hb hby d5_1) (fun _ _ => ⟨rfl, e0, (by decide : 0 + 0 ≤ _), (by decide : 0 + 0 ≤ _)⟩)
  dsimp only [Pt.U, Pt.locs, Pt.cells, Pt.slots] at X1 l1 y1 z1 st1 hQ1
  subst l1 y1 z1
  obtain ⟨rfl, N1q, e1⟩ := hQ1
  have N1 := Fr.app N0 N1q
  refine go (B := T1.setTop (mkF m 4 #[.val (.long q1), .second] [(.int (fP q1))])) (fun _ k => st1 _ k) ?_
  refine go (B := T1.setTop (mkF m 5 #[.val (.long q1), .second] [(.long q1), (.int (fP q1))])) (fun _ k => XS.lloadN X1.here hx rfl (hb hby d5_4) rfl k) ?_
  obtain ⟨_, _, ⟨T2, L2, k2, n2⟩, -, X2, ⟨Lc2, hQ2, l2, y2, z2⟩, st2⟩ := Jvm.LawKit.callS X1 hx (y := (⟨"com/example/eel_river/eelriver/space/CellRangeOverlapsPinLaw", "q", "(J)I"⟩ : MethodName)) hown (mvT hZ (hw _ (List.mem_of_getElem? (i := 8) rfl))) (mvT hZ (hw _ (List.mem_of_getElem? (i := 9) rfl))) (mvT hZ (hw _ (List.mem_of_getElem? (i := 2) rfl))) (mvT hZ (hw _ (List.mem_of_getElem? (i := 10) rfl))) (by decide) (backOf (W := 1) (rm3 l Z a0 hw [] q1 h0 n0 Z0) hZ (hw _ (List.mem_of_getElem? (i := 10) rfl)) (hw _ (List.mem_of_getElem? (i := 2) rfl)) (by decide) (by decide)) (g := (mkF m 5 #[.val (.long q1), .second] [(.long q1), (.int (fP q1))])) rfl (by rw [hml]; rfl) (argsL := [(.long q1)]) (rest := [(.int (fP q1))]) (lenOf pd__J_I rfl) rfl (by show 2 * 0 + _ ≤ _; exact Nat.le_of_eq rfl) (hb hby d5_5) (fun _ _ => ⟨rfl, e1, (by decide : 0 + 0 ≤ _), (by decide : 0 + 0 ≤ _)⟩)
  dsimp only [Pt.U, Pt.locs, Pt.cells, Pt.slots] at X2 l2 y2 z2 st2 hQ2
  subst l2 y2 z2
  obtain ⟨rfl, N2q, e2⟩ := hQ2
  have N2 := Fr.app N1 N2q
  refine go (B := T2.setTop (mkF m 8 #[.val (.long q1), .second] [(.int (fQ q1)), (.int (fP q1))])) (fun _ k => st2 _ k) ?_
  obtain ⟨_, _, ⟨T3, L3, k3, n3⟩, -, X3, ⟨Lc3, hQ3, l3, y3, z3⟩, st3⟩ := Jvm.LawKit.callS X2 hx (y := (⟨"java/lang/Math", "max", "(II)I"⟩ : MethodName)) hown (mvT hZ (hw _ (List.mem_of_getElem? (i := 18) rfl))) (mvT hZ (hw _ (List.mem_of_getElem? (i := 19) rfl))) (mvT hZ (hw _ (List.mem_of_getElem? (i := 13) rfl))) (mvT hZ (hw _ (List.mem_of_getElem? (i := 20) rfl))) (by decide) (backOf (W := 0) (rm6 l Z a0 hw [] (fP q1) (fQ q1) h0 n0 Z0) hZ (hw _ (List.mem_of_getElem? (i := 20) rfl)) (hw _ (List.mem_of_getElem? (i := 13) rfl)) (by decide) (by decide)) (g := (mkF m 8 #[.val (.long q1), .second] [(.int (fQ q1)), (.int (fP q1))])) rfl (by rw [hml]; rfl) (argsL := [(.int (fP q1)), (.int (fQ q1))]) (rest := []) (lenOf pd__II_I rfl) rfl (by show 2 * 0 + _ ≤ _; exact Nat.le_of_eq rfl) (hb hby d5_8) (fun _ _ => ⟨rfl, e2, (by decide : 0 + 0 ≤ _), (by decide : 0 + 0 ≤ _)⟩)
  dsimp only [Pt.U, Pt.locs, Pt.cells, Pt.slots] at X3 l3 y3 z3 st3 hQ3
  subst l3 y3 z3
  obtain ⟨rfl, N3q, e3⟩ := hQ3
  have N3 := Fr.app N2 N3q
  refine go (B := T3.setTop (mkF m 11 #[.val (.long q1), .second] [(.int (fMx (fP q1) (fQ q1)))])) (fun _ k => st3 _ k) ?_
  refine goRetI X3 hx Bd.returns hlk (hb hby d5_11) ?_ (by decide) (by decide)
  rw [e3]
  exact ⟨rfl, N3, rfl⟩
theorem ef_rm11 (m : MethodId) (p1 : Int32) (p2 : Int32) (p3 : Int32) : entryFrame m #[(.int p1), (.int p2), (.int p3)] 3 = mkF m 0 #[.val (.int p1), .val (.int p2), .val (.int p3)] [] := by first | (simp [entryFrame, mkF, argsToLocals, Value.category]; done) | rfl
def Q11 (Z : State) (p1 : Int32) (p2 : Int32) (p3 : Int32) (h0 : Heap) (n0 : Nat) (v : Option Value) (h : Heap) (L : List Loc) : Prop := v = some (.int (fIn p1 p2 p3)) ∧ Fr n0 L ∧ h = h0
theorem d11_0 : decode method_7_code 0 = .ok (.iload_n 1, 1) := by decide +kernel
theorem d11_1 : decode method_7_code 1 = .ok (.iload_n 0, 1) := by decide +kernel
theorem d11_2 : decode method_7_code 2 = .ok (.if_icmp .gt 12, 3) := by decide +kernel
theorem d11_14 : decode method_7_code 14 = .ok (.iconst 0, 1) := by decide +kernel
theorem d11_15 : decode method_7_code 15 = .ok (.ireturn, 1) := by decide +kernel
theorem d11_5 : decode method_7_code 5 = .ok (.iload_n 0, 1) := by decide +kernel
theorem d11_6 : decode method_7_code 6 = .ok (.iload_n 2, 1) := by decide +kernel
theorem d11_7 : decode method_7_code 7 = .ok (.if_icmp .gt 7, 3) := by decide +kernel
theorem d11_10 : decode method_7_code 10 = .ok (.iconst 1, 1) := by decide +kernel
theorem d11_11 : decode method_7_code 11 = .ok (.goto 4, 3) := by decide +kernel
set_option maxRecDepth 65536 in
set_option maxHeartbeats 40000000 in
theorem rm11 (l : Launch) (Z : State) (a0 : Array Value) (hw : ∀ d ∈ tables_1, d.before a0 Z = true) (ws : List Jvm.Cond) (p1 : Int32) (p2 : Int32) (p3 : Int32) (h0 : Heap) (n0 : Nat) (Z0 : n0 ≤ h0.size) :
    MetFree l (⟨"com/example/eel_river/eelriver/space/CellRangeOverlapsPinLaw", "in", "(III)Z"⟩ : MethodName) (head1 (Jvm.Cond.code (⟨"com/example/eel_river/eelriver/space/CellRangeOverlapsPinLaw", "in", "(III)Z"⟩ : MethodName) method_7_code 3 (some .boolean) :: ws) ({ frames := 0, cells := 0, slots := 0, locals := 0 } : Room)) (fun a U => a = #[(.int p1), (.int p2), (.int p3)] ∧ Z.Warmed39 U.vm ∧ U.heap = h0) (fun _ _ _ _ _ => True) (fun _ U o U' => ∃ v L, o = .returned v ∧ Q11 Z p1 p2 p3 h0 n0 v U'.heap L ∧ FrameEnd U o U' L ({ frames := 0, cells := 0, slots := 0, locals := 0 } : Room).cells ({ frames := 0, cells := 0, slots := 0, locals := 0 } : Room).slots) := by
  refine MetFree.of_bodySF (plainFor_of_name pn_com_example_eel_river_eelriver_space_CellRangeOverlapsPinLaw) hisR ?_
  intro p e s m args below meth c s₁ Bd hml0 hP hK
  obtain ⟨rfl, hZ, hh⟩ := hP
  have hx := Bd.exec
  have hby := Bd.bytes
  have hml : c.maxLocals = 3 := hml0
  have hown : s.vm.findClass "com/example/eel_river/eelriver/space/CellRangeOverlapsPinLaw" = some m.cls := findClass_of_methodNamed Bd.named
  have hnm := (name_of_methodNamed Bd.named Bd.method).1
  have hlk := Bd.notSynchronized
  have X0 : Stand p l e ({ frames := 0, cells := 0, slots := 0, locals := 0 } : Room) s m #[(.int p1), (.int p2), (.int p3)] below meth c s₁ [] 0 0 := Stand.of_body Bd
  have e0 : s₁.heap = h0 := by rw [← hh, Bd.state]; rfl
  have N0 := Fr.nil n0
  show Go p.tables e below s ({ frames := 0, cells := 0, slots := 0, locals := 0 } : Room).cells ({ frames := 0, cells := 0, slots := 0, locals := 0 } : Room).slots (Q11 Z p1 p2 p3 h0 n0) _
  refine go (fun t k => castTop (ef_rm11 m p1 p2 p3) k) ?_
  refine go (B := s₁.setTop (mkF m 1 #[.val (.int p1), .val (.int p2), .val (.int p3)] [(.int p2)])) (fun _ k => XS.iloadN X0.here hx rfl (hb hby d11_0) rfl k) ?_
  refine go (B := s₁.setTop (mkF m 2 #[.val (.int p1), .val (.int p2), .val (.int p3)] [(.int p1), (.int p2)])) (fun _ k => XS.iloadN X0.here hx rfl (hb hby d11_1) rfl k) ?_
  by_cases hc2 : p1 < p2
  · refine go (B := s₁.setTop (mkF m 14 #[.val (.int p1), .val (.int p2), .val (.int p3)] [])) (fun _ k => XS.icmpYes X0.here hx rfl (pc0 := 2) (pc' := 14) rfl (hb hby d11_2) rfl (tlt hc2).2.2.1 (by decide) (by decide) k) ?_
    refine go (B := s₁.setTop (mkF m 15 #[.val (.int p1), .val (.int p2), .val (.int p3)] [(.int (0 : Int32))])) (fun _ k => XS.iconst X0.here hx rfl (hb hby d11_14) k) ?_
    refine goRetN X0 hx (t := .boolean) Bd.returns (by simp) hlk (hb hby d11_15) ?_ (by decide) (by decide)
    rw [e0]
    have q : fIn p1 p2 p3 = (0 : Int32) := fIn_zero (by simp only [Int32.lt_iff_toInt_lt, Int64.lt_iff_toInt_lt, ← Int32.toInt_inj, ← Int64.toInt_inj, Int32.reduceToInt, Int64.reduceToInt] at hc2; omega)
    exact ⟨by rw [q]; rfl, N0, rfl⟩
  · refine go (B := s₁.setTop (mkF m 5 #[.val (.int p1), .val (.int p2), .val (.int p3)] [])) (fun _ k => XS.icmpNo X0.here hx rfl (hb hby d11_2) rfl (flt hc2).2.2.1 k) ?_
    refine go (B := s₁.setTop (mkF m 6 #[.val (.int p1), .val (.int p2), .val (.int p3)] [(.int p1)])) (fun _ k => XS.iloadN X0.here hx rfl (hb hby d11_5) rfl k) ?_
    refine go (B := s₁.setTop (mkF m 7 #[.val (.int p1), .val (.int p2), .val (.int p3)] [(.int p3), (.int p1)])) (fun _ k => XS.iloadN X0.here hx rfl (hb hby d11_6) rfl k) ?_
    by_cases hc7 : p3 < p1
    · refine go (B := s₁.setTop (mkF m 14 #[.val (.int p1), .val (.int p2), .val (.int p3)] [])) (fun _ k => XS.icmpYes X0.here hx rfl (pc0 := 7) (pc' := 14) rfl (hb hby d11_7) rfl (tlt hc7).2.2.1 (by decide) (by decide) k) ?_
      refine go (B := s₁.setTop (mkF m 15 #[.val (.int p1), .val (.int p2), .val (.int p3)] [(.int (0 : Int32))])) (fun _ k => XS.iconst X0.here hx rfl (hb hby d11_14) k) ?_
      refine goRetN X0 hx (t := .boolean) Bd.returns (by simp) hlk (hb hby d11_15) ?_ (by decide) (by decide)
      rw [e0]
      have q : fIn p1 p2 p3 = (0 : Int32) := fIn_zero (by simp only [Int32.lt_iff_toInt_lt, Int64.lt_iff_toInt_lt, ← Int32.toInt_inj, ← Int64.toInt_inj, Int32.reduceToInt, Int64.reduceToInt] at hc2 hc7; omega)
      exact ⟨by rw [q]; rfl, N0, rfl⟩
    · refine go (B := s₁.setTop (mkF m 10 #[.val (.int p1), .val (.int p2), .val (.int p3)] [])) (fun _ k => XS.icmpNo X0.here hx rfl (hb hby d11_7) rfl (flt hc7).2.2.1 k) ?_
      refine go (B := s₁.setTop (mkF m 11 #[.val (.int p1), .val (.int p2), .val (.int p3)] [(.int (1 : Int32))])) (fun _ k => XS.iconst X0.here hx rfl (hb hby d11_10) k) ?_
      refine go (B := s₁.setTop (mkF m 15 #[.val (.int p1), .val (.int p2), .val (.int p3)] [(.int (1 : Int32))])) (fun _ k => XS.goto X0.here hx rfl (pc0 := 11) (pc' := 15) rfl (hb hby d11_11) (by decide) (by decide) k) ?_
      refine goRetN X0 hx (t := .boolean) Bd.returns (by simp) hlk (hb hby d11_15) ?_ (by decide) (by decide)
      rw [e0]
      have q : fIn p1 p2 p3 = (1 : Int32) := fIn_one (by simp only [Int32.lt_iff_toInt_lt, Int64.lt_iff_toInt_lt, ← Int32.toInt_inj, ← Int64.toInt_inj, Int32.reduceToInt, Int64.reduceToInt] at hc2 hc7; omega)
      exact ⟨by rw [q]; rfl, N0, rfl⟩
theorem pn_java_lang_Record : plainName "java/lang/Record" = true := by first | (simp [plainName, overriddenIn]; done) | decide +kernel
theorem ef_rm8 (m : MethodId) (a1 : Addr) : entryFrame m #[(.ref a1)] 1 = mkF m 0 #[.val (.ref a1)] [] := by first | (simp [entryFrame, mkF, argsToLocals, Value.category]; done) | rfl
def Q8 (Z : State) (a1 : Addr) (h0 : Heap) (n0 : Nat) (v : Option Value) (h : Heap) (L : List Loc) : Prop := v = none ∧ Fr n0 L ∧ h = h0
theorem d8_0 : decode jdk_30_method_1_code 0 = .ok (.aload_n 0, 1) := by decide +kernel
theorem d8_1 : decode jdk_30_method_1_code 1 = .ok (.invokespecial 1, 3) := by decide +kernel
theorem d8_4 : decode jdk_30_method_1_code 4 = .ok (.return_, 1) := by decide +kernel
set_option maxRecDepth 65536 in
set_option maxHeartbeats 40000000 in
theorem rm8 (l : Launch) (Z : State) (a0 : Array Value) (hw : ∀ d ∈ tables_1, d.before a0 Z = true) (ws : List Jvm.Cond) (a1 : Addr) (h0 : Heap) (n0 : Nat) (Z0 : n0 ≤ h0.size) :
    MetFree l (⟨"java/lang/Record", "<init>", "()V"⟩ : MethodName) (head1 (Jvm.Cond.code (⟨"java/lang/Record", "<init>", "()V"⟩ : MethodName) jdk_30_method_1_code 1 none :: ws) ({ frames := 1, cells := 0, slots := 0, locals := 12 } : Room)) (fun a U => a = #[(.ref a1)] ∧ Z.Warmed39 U.vm ∧ U.heap = h0) (fun _ _ _ _ _ => True) (fun _ U o U' => ∃ v L, o = .returned v ∧ Q8 Z a1 h0 n0 v U'.heap L ∧ FrameEnd U o U' L ({ frames := 1, cells := 0, slots := 0, locals := 12 } : Room).cells ({ frames := 1, cells := 0, slots := 0, locals := 12 } : Room).slots) := by
  refine MetFree.of_bodySF (plainFor_of_name pn_java_lang_Record) hisR ?_
  intro p e s m args below meth c s₁ Bd hml0 hP hK
  obtain ⟨rfl, hZ, hh⟩ := hP
  have hx := Bd.exec
  have hby := Bd.bytes
  have hml : c.maxLocals = 1 := hml0
  have hown : s.vm.findClass "java/lang/Record" = some m.cls := findClass_of_methodNamed Bd.named
  have hnm := (name_of_methodNamed Bd.named Bd.method).1
  have hlk := Bd.notSynchronized
  have X0 : Stand p l e ({ frames := 1, cells := 0, slots := 0, locals := 12 } : Room) s m #[(.ref a1)] below meth c s₁ [] 0 0 := Stand.of_body Bd
  have e0 : s₁.heap = h0 := by rw [← hh, Bd.state]; rfl
  have N0 := Fr.nil n0
  show Go p.tables e below s ({ frames := 1, cells := 0, slots := 0, locals := 12 } : Room).cells ({ frames := 1, cells := 0, slots := 0, locals := 12 } : Room).slots (Q8 Z a1 h0 n0) _
  refine go (fun t k => castTop (ef_rm8 m a1) k) ?_
  refine go (B := s₁.setTop (mkF m 1 #[.val (.ref a1)] [(.ref a1)])) (fun _ k => XS.aloadN X0.here hx rfl (hb hby d8_0) rfl rfl k) ?_
  obtain ⟨T1, X1, e1, st1⟩ := initO X0 hx hZ hown (hw _ (List.mem_of_getElem? (i := 32) rfl)) (hw _ (List.mem_of_getElem? (i := 33) rfl)) (hw _ (List.mem_of_getElem? (i := 34) rfl)) e0 (g := (mkF m 1 #[.val (.ref a1)] [(.ref a1)])) rfl (by rw [hml]; rfl) rfl (hb hby d8_1) (by decide) (W := 0) (by show 2 * 0 + _ ≤ _; exact Nat.le_of_eq rfl) (by decide)
  refine go (B := T1.setTop (mkF m 4 #[.val (.ref a1)] [])) (fun _ k => st1 _ k) ?_
  refine goRetV X1 hx Bd.returns hlk (hb hby d8_4) ?_ (by decide) (by decide)
  rw [e1]
  exact ⟨rfl, N0, rfl⟩
theorem pn_com_example_eel_river_eelriver_space_CellRange : plainName "com/example/eel_river/eelriver/space/CellRange" = true := by first | (simp [plainName, overriddenIn]; done) | decide +kernel
theorem ef_rm7 (m : MethodId) (a1 : Addr) (p2 : Int32) (p3 : Int32) (p4 : Int32) (p5 : Int32) : entryFrame m #[(.ref a1), (.int p2), (.int p3), (.int p4), (.int p5)] 5 = mkF m 0 #[.val (.ref a1), .val (.int p2), .val (.int p3), .val (.int p4), .val (.int p5)] [] := by first | (simp [entryFrame, mkF, argsToLocals, Value.category]; done) | rfl
def Q7 (Z : State) (a1 : Addr) (p2 : Int32) (p3 : Int32) (p4 : Int32) (p5 : Int32) (u0 : Value) (u1 : Value) (u2 : Value) (u3 : Value) (h0 : Heap) (n0 : Nat) (v : Option Value) (h : Heap) (L : List Loc) : Prop := v = none ∧ Fr n0 L ∧ n0 ≤ h.size ∧ Keep h0 h [a1] ∧ Exa Z h a1 "com/example/eel_river/eelriver/space/CellRange" ∧ Fld Z h a1 "com/example/eel_river/eelriver/space/CellRange" "firstColumn" "I" (.int p2) ∧ Fld Z h a1 "com/example/eel_river/eelriver/space/CellRange" "lastColumn" "I" (.int p3) ∧ Fld Z h a1 "com/example/eel_river/eelriver/space/CellRange" "firstRow" "I" (.int p4) ∧ Fld Z h a1 "com/example/eel_river/eelriver/space/CellRange" "lastRow" "I" (.int p5)
theorem d7_0 : decode prog_198_method_1_code 0 = .ok (.aload_n 0, 1) := by decide +kernel
theorem d7_1 : decode prog_198_method_1_code 1 = .ok (.invokespecial 1, 3) := by decide +kernel
theorem pd___V : parseMethodDescriptor "()V" = some ⟨[], none⟩ := by decide +kernel
theorem d7_4 : decode prog_198_method_1_code 4 = .ok (.iload_n 1, 1) := by decide +kernel
theorem d7_5 : decode prog_198_method_1_code 5 = .ok (.ifCond .lt 18, 3) := by decide +kernel
theorem d7_8 : decode prog_198_method_1_code 8 = .ok (.iload_n 3, 1) := by decide +kernel
theorem d7_9 : decode prog_198_method_1_code 9 = .ok (.ifCond .lt 14, 3) := by decide +kernel
theorem d7_12 : decode prog_198_method_1_code 12 = .ok (.iload_n 1, 1) := by decide +kernel
theorem d7_13 : decode prog_198_method_1_code 13 = .ok (.iload_n 2, 1) := by decide +kernel
theorem d7_14 : decode prog_198_method_1_code 14 = .ok (.if_icmp .gt 9, 3) := by decide +kernel
theorem d7_17 : decode prog_198_method_1_code 17 = .ok (.iload_n 3, 1) := by decide +kernel
theorem d7_18 : decode prog_198_method_1_code 18 = .ok (.iload 4, 2) := by decide +kernel
theorem d7_20 : decode prog_198_method_1_code 20 = .ok (.if_icmp .le 21, 3) := by decide +kernel
theorem d7_41 : decode prog_198_method_1_code 41 = .ok (.aload_n 0, 1) := by decide +kernel
theorem d7_42 : decode prog_198_method_1_code 42 = .ok (.iload_n 1, 1) := by decide +kernel
theorem d7_43 : decode prog_198_method_1_code 43 = .ok (.putfield 16, 3) := by decide +kernel
theorem d7_46 : decode prog_198_method_1_code 46 = .ok (.aload_n 0, 1) := by decide +kernel
theorem d7_47 : decode prog_198_method_1_code 47 = .ok (.iload_n 2, 1) := by decide +kernel
theorem d7_48 : decode prog_198_method_1_code 48 = .ok (.putfield 22, 3) := by decide +kernel
theorem d7_51 : decode prog_198_method_1_code 51 = .ok (.aload_n 0, 1) := by decide +kernel
theorem d7_52 : decode prog_198_method_1_code 52 = .ok (.iload_n 3, 1) := by decide +kernel
theorem d7_53 : decode prog_198_method_1_code 53 = .ok (.putfield 25, 3) := by decide +kernel
theorem d7_56 : decode prog_198_method_1_code 56 = .ok (.aload_n 0, 1) := by decide +kernel
theorem d7_57 : decode prog_198_method_1_code 57 = .ok (.iload 4, 2) := by decide +kernel
theorem d7_59 : decode prog_198_method_1_code 59 = .ok (.putfield 28, 3) := by decide +kernel
theorem d7_62 : decode prog_198_method_1_code 62 = .ok (.return_, 1) := by decide +kernel
set_option maxRecDepth 65536 in
set_option maxHeartbeats 40000000 in
theorem rm7 (l : Launch) (Z : State) (a0 : Array Value) (hw : ∀ d ∈ tables_1, d.before a0 Z = true) (ws : List Jvm.Cond) (a1 : Addr) (p2 : Int32) (p3 : Int32) (p4 : Int32) (p5 : Int32) (u0 : Value) (u1 : Value) (u2 : Value) (u3 : Value) (h0 : Heap) (n0 : Nat) (Z0 : n0 ≤ h0.size) (E_a1 : Exa Z h0 a1 "com/example/eel_river/eelriver/space/CellRange") (F_firstColumn : Fld Z h0 a1 "com/example/eel_river/eelriver/space/CellRange" "firstColumn" "I" u0) (F_lastColumn : Fld Z h0 a1 "com/example/eel_river/eelriver/space/CellRange" "lastColumn" "I" u1) (F_firstRow : Fld Z h0 a1 "com/example/eel_river/eelriver/space/CellRange" "firstRow" "I" u2) (F_lastRow : Fld Z h0 a1 "com/example/eel_river/eelriver/space/CellRange" "lastRow" "I" u3) (g_a1 : n0 ≤ a1) (b1 : 0 ≤ p2.toInt) (b2 : p2.toInt ≤ p3.toInt) (b3 : 0 ≤ p4.toInt) (b4 : p4.toInt ≤ p5.toInt) :
    MetFree l (⟨"com/example/eel_river/eelriver/space/CellRange", "<init>", "(IIII)V"⟩ : MethodName) (head1 (Jvm.Cond.code (⟨"com/example/eel_river/eelriver/space/CellRange", "<init>", "(IIII)V"⟩ : MethodName) prog_198_method_1_code 5 none :: ws) ({ frames := 2, cells := 0, slots := 0, locals := 30 } : Room)) (fun a U => a = #[(.ref a1), (.int p2), (.int p3), (.int p4), (.int p5)] ∧ Z.Warmed39 U.vm ∧ U.heap = h0) (fun _ _ _ _ _ => True) (fun _ U o U' => ∃ v L, o = .returned v ∧ Q7 Z a1 p2 p3 p4 p5 u0 u1 u2 u3 h0 n0 v U'.heap L ∧ FrameEnd U o U' L ({ frames := 2, cells := 0, slots := 0, locals := 30 } : Room).cells ({ frames := 2, cells := 0, slots := 0, locals := 30 } : Room).slots) := by
  refine MetFree.of_bodySF (plainFor_of_name pn_com_example_eel_river_eelriver_space_CellRange) hisR ?_
  intro p e s m args below meth c s₁ Bd hml0 hP hK
  obtain ⟨rfl, hZ, hh⟩ := hP
  have hx := Bd.exec
  have hby := Bd.bytes
  have hml : c.maxLocals = 5 := hml0
  have hown : s.vm.findClass "com/example/eel_river/eelriver/space/CellRange" = some m.cls := findClass_of_methodNamed Bd.named
  have hnm := (name_of_methodNamed Bd.named Bd.method).1
  have hlk := Bd.notSynchronized
  have X0 : Stand p l e ({ frames := 2, cells := 0, slots := 0, locals := 30 } : Room) s m #[(.ref a1), (.int p2), (.int p3), (.int p4), (.int p5)] below meth c s₁ [] 0 0 := Stand.of_body Bd
  have e0 : s₁.heap = h0 := by rw [← hh, Bd.state]; rfl
  have N0 := Fr.nil n0
  show Go p.tables e below s ({ frames := 2, cells := 0, slots := 0, locals := 30 } : Room).cells ({ frames := 2, cells := 0, slots := 0, locals := 30 } : Room).slots (Q7 Z a1 p2 p3 p4 p5 u0 u1 u2 u3 h0 n0) _
  refine go (fun t k => castTop (ef_rm7 m a1 p2 p3 p4 p5) k) ?_
  refine go (B := s₁.setTop (mkF m 1 #[.val (.ref a1), .val (.int p2), .val (.int p3), .val (.int p4), .val (.int p5)] [(.ref a1)])) (fun _ k => XS.aloadN X0.here hx rfl (hb hby d7_0) rfl rfl k) ?_
  obtain ⟨_, _, ⟨T1, L1, k1, n1⟩, -, X1, ⟨Lc1, hQ1, l1, y1, z1⟩, st1⟩ := X0.specialBack hx (y := (⟨"java/lang/Record", "<init>", "()V"⟩ : MethodName)) rfl hown (mvT hZ (hw _ (List.mem_of_getElem? (i := 27) rfl))) (mvT hZ (hw _ (List.mem_of_getElem? (i := 28) rfl))) (mvT hZ (hw _ (List.mem_of_getElem? (i := 31) rfl))) (by decide) (backOf (W := 0) (rm8 l Z a0 hw [] a1 h0 n0 Z0) hZ (hw _ (List.mem_of_getElem? (i := 31) rfl)) (hw _ (List.mem_of_getElem? (i := 30) rfl)) (by decide) (by decide)) (g := (mkF m 1 #[.val (.ref a1), .val (.int p2), .val (.int p3), .val (.int p4), .val (.int p5)] [(.ref a1)])) rfl (by rw [hml]; rfl) (Steps.refl _) (a := a1) (argsL := []) (rest := []) (lenOf pd___V rfl) rfl (by show 2 * 0 + _ ≤ _; exact Nat.le_of_eq rfl) (hb hby d7_1) (fun _ _ => ⟨rfl, e0, (by decide : 0 + 0 ≤ _), (by decide : 0 + 0 ≤ _)⟩)
  dsimp only [Pt.U, Pt.locs, Pt.cells, Pt.slots] at X1 l1 y1 z1 st1 hQ1
  subst l1 y1 z1
  obtain ⟨rfl, N1q, e1⟩ := hQ1
  have N1 := Fr.app N0 N1q
  refine go (B := T1.setTop (mkF m 4 #[.val (.ref a1), .val (.int p2), .val (.int p3), .val (.int p4), .val (.int p5)] [])) (fun _ k => st1.trans k) ?_
  refine go (B := T1.setTop (mkF m 5 #[.val (.ref a1), .val (.int p2), .val (.int p3), .val (.int p4), .val (.int p5)] [(.int p2)])) (fun _ k => XS.iloadN X1.here hx rfl (hb hby d7_4) rfl k) ?_
  have hc5 : ¬ (p2 < (0 : Int32)) := (fun q => by simp only [Int32.lt_iff_toInt_lt, Int32.reduceToInt] at q; omega)
  refine go (B := T1.setTop (mkF m 8 #[.val (.ref a1), .val (.int p2), .val (.int p3), .val (.int p4), .val (.int p5)] [])) (fun _ k => XS.ifNo X1.here hx rfl (hb hby d7_5) rfl ((if0 _ _).trans (flt hc5).1) k) ?_
  refine go (B := T1.setTop (mkF m 9 #[.val (.ref a1), .val (.int p2), .val (.int p3), .val (.int p4), .val (.int p5)] [(.int p4)])) (fun _ k => XS.iloadN X1.here hx rfl (hb hby d7_8) rfl k) ?_
  have hc9 : ¬ (p4 < (0 : Int32)) := (fun q => by simp only [Int32.lt_iff_toInt_lt, Int32.reduceToInt] at q; omega)
  refine go (B := T1.setTop (mkF m 12 #[.val (.ref a1), .val (.int p2), .val (.int p3), .val (.int p4), .val (.int p5)] [])) (fun _ k => XS.ifNo X1.here hx rfl (hb hby d7_9) rfl ((if0 _ _).trans (flt hc9).1) k) ?_
  refine go (B := T1.setTop (mkF m 13 #[.val (.ref a1), .val (.int p2), .val (.int p3), .val (.int p4), .val (.int p5)] [(.int p2)])) (fun _ k => XS.iloadN X1.here hx rfl (hb hby d7_12) rfl k) ?_
  refine go (B := T1.setTop (mkF m 14 #[.val (.ref a1), .val (.int p2), .val (.int p3), .val (.int p4), .val (.int p5)] [(.int p3), (.int p2)])) (fun _ k => XS.iloadN X1.here hx rfl (hb hby d7_13) rfl k) ?_
  have hc14 : ¬ (p3 < p2) := (fun q => by simp only [Int32.lt_iff_toInt_lt, Int32.reduceToInt] at q; omega)
  refine go (B := T1.setTop (mkF m 17 #[.val (.ref a1), .val (.int p2), .val (.int p3), .val (.int p4), .val (.int p5)] [])) (fun _ k => XS.icmpNo X1.here hx rfl (hb hby d7_14) rfl (flt hc14).2.2.1 k) ?_
  refine go (B := T1.setTop (mkF m 18 #[.val (.ref a1), .val (.int p2), .val (.int p3), .val (.int p4), .val (.int p5)] [(.int p4)])) (fun _ k => XS.iloadN X1.here hx rfl (hb hby d7_17) rfl k) ?_
  refine go (B := T1.setTop (mkF m 20 #[.val (.ref a1), .val (.int p2), .val (.int p3), .val (.int p4), .val (.int p5)] [(.int p5), (.int p4)])) (fun _ k => XS.iload X1.here hx rfl (hb hby d7_18) rfl k) ?_
  have hc20 : ¬ (p5 < p4) := (fun q => by simp only [Int32.lt_iff_toInt_lt, Int32.reduceToInt] at q; omega)
  refine go (B := T1.setTop (mkF m 41 #[.val (.ref a1), .val (.int p2), .val (.int p3), .val (.int p4), .val (.int p5)] [])) (fun _ k => XS.icmpYes X1.here hx rfl (pc0 := 20) (pc' := 41) rfl (hb hby d7_20) rfl (flt hc20).2.2.2 (by decide) (by decide) k) ?_
  refine go (B := T1.setTop (mkF m 42 #[.val (.ref a1), .val (.int p2), .val (.int p3), .val (.int p4), .val (.int p5)] [(.ref a1)])) (fun _ k => XS.aloadN X1.here hx rfl (hb hby d7_41) rfl rfl k) ?_
  refine go (B := T1.setTop (mkF m 43 #[.val (.ref a1), .val (.int p2), .val (.int p3), .val (.int p4), .val (.int p5)] [(.int p2), (.ref a1)])) (fun _ k => XS.iloadN X1.here hx rfl (hb hby d7_42) rfl k) ?_
  obtain ⟨T2, h2, X2, e2, W2, st2⟩ := putF X1 hx hZ hown (host := "") (Or.inl (hw _ (List.mem_of_getElem? (i := 35) rfl))) Via.refl e1 F_firstColumn E_a1 (Or.inr ⟨(hw _ (List.mem_of_getElem? (i := 36) rfl)), rfl, hnm⟩) (hw _ (List.mem_of_getElem? (i := 22) rfl)) (ty := .int) (by decide) rfl rfl (g := (mkF m 43 #[.val (.ref a1), .val (.int p2), .val (.int p3), .val (.int p4), .val (.int p5)] [(.int p2), (.ref a1)])) rfl rfl (hb hby d7_43)
  replace E_a1 := E_a1.wr W2
  replace F_firstColumn := F_firstColumn.same W2
  replace F_lastColumn := F_lastColumn.other W2 (Or.inr (slot_ne (Or.inr (hw _ (List.mem_of_getElem? (i := 38) rfl))) (Or.inr (hw _ (List.mem_of_getElem? (i := 36) rfl))) (by decide) (t := .int) (t' := .int) (by decide) (by decide)))
  replace F_firstRow := F_firstRow.other W2 (Or.inr (slot_ne (Or.inr (hw _ (List.mem_of_getElem? (i := 40) rfl))) (Or.inr (hw _ (List.mem_of_getElem? (i := 36) rfl))) (by decide) (t := .int) (t' := .int) (by decide) (by decide)))
  replace F_lastRow := F_lastRow.other W2 (Or.inr (slot_ne (Or.inr (hw _ (List.mem_of_getElem? (i := 42) rfl))) (Or.inr (hw _ (List.mem_of_getElem? (i := 36) rfl))) (by decide) (t := .int) (t' := .int) (by decide) (by decide)))
  have N2 := Fr.snoc X2 N1 g_a1
  have Z2 : n0 ≤ h2.size := Nat.le_trans Z0 (Keep.of_wr W2).1
  have K2 : Keep h0 h2 [a1] := (Keep.refl h0 [a1]).wr W2 (Or.inl (List.mem_of_getElem? (i := 0) rfl))
  refine go (B := T2.setTop (mkF m 46 #[.val (.ref a1), .val (.int p2), .val (.int p3), .val (.int p4), .val (.int p5)] [])) (fun _ k => st2 _ k) ?_
  refine go (B := T2.setTop (mkF m 47 #[.val (.ref a1), .val (.int p2), .val (.int p3), .val (.int p4), .val (.int p5)] [(.ref a1)])) (fun _ k => XS.aloadN X2.here hx rfl (hb hby d7_46) rfl rfl k) ?_
  refine go (B := T2.setTop (mkF m 48 #[.val (.ref a1), .val (.int p2), .val (.int p3), .val (.int p4), .val (.int p5)] [(.int p3), (.ref a1)])) (fun _ k => XS.iloadN X2.here hx rfl (hb hby d7_47) rfl k) ?_
  obtain ⟨T3, h3, X3, e3, W3, st3⟩ := putF X2 hx hZ hown (host := "") (Or.inl (hw _ (List.mem_of_getElem? (i := 37) rfl))) Via.refl e2 F_lastColumn E_a1 (Or.inr ⟨(hw _ (List.mem_of_getElem? (i := 38) rfl)), rfl, hnm⟩) (hw _ (List.mem_of_getElem? (i := 22) rfl)) (ty := .int) (by decide) rfl rfl (g := (mkF m 48 #[.val (.ref a1), .val (.int p2), .val (.int p3), .val (.int p4), .val (.int p5)] [(.int p3), (.ref a1)])) rfl rfl (hb hby d7_48)
  replace E_a1 := E_a1.wr W3
  replace F_firstColumn := F_firstColumn.other W3 (Or.inr (slot_ne (Or.inr (hw _ (List.mem_of_getElem? (i := 36) rfl))) (Or.inr (hw _ (List.mem_of_getElem? (i := 38) rfl))) (by decide) (t := .int) (t' := .int) (by decide) (by decide)))
  replace F_lastColumn := F_lastColumn.same W3
  replace F_firstRow := F_firstRow.other W3 (Or.inr (slot_ne (Or.inr (hw _ (List.mem_of_getElem? (i := 40) rfl))) (Or.inr (hw _ (List.mem_of_getElem? (i := 38) rfl))) (by decide) (t := .int) (t' := .int) (by decide) (by decide)))
  replace F_lastRow := F_lastRow.other W3 (Or.inr (slot_ne (Or.inr (hw _ (List.mem_of_getElem? (i := 42) rfl))) (Or.inr (hw _ (List.mem_of_getElem? (i := 38) rfl))) (by decide) (t := .int) (t' := .int) (by decide) (by decide)))
  have N3 := Fr.snoc X3 N2 g_a1
  have Z3 : n0 ≤ h3.size := Nat.le_trans Z2 (Keep.of_wr W3).1
  have K3 : Keep h0 h3 [a1] := K2.wr W3 (Or.inl (List.mem_of_getElem? (i := 0) rfl))
  refine go (B := T3.setTop (mkF m 51 #[.val (.ref a1), .val (.int p2), .val (.int p3), .val (.int p4), .val (.int p5)] [])) (fun _ k => st3 _ k) ?_
  refine go (B := T3.setTop (mkF m 52 #[.val (.ref a1), .val (.int p2), .val (.int p3), .val (.int p4), .val (.int p5)] [(.ref a1)])) (fun _ k => XS.aloadN X3.here hx rfl (hb hby d7_51) rfl rfl k) ?_
  refine go (B := T3.setTop (mkF m 53 #[.val (.ref a1), .val (.int p2), .val (.int p3), .val (.int p4), .val (.int p5)] [(.int p4), (.ref a1)])) (fun _ k => XS.iloadN X3.here hx rfl (hb hby d7_52) rfl k) ?_
  obtain ⟨T4, h4, X4, e4, W4, st4⟩ := putF X3 hx hZ hown (host := "") (Or.inl (hw _ (List.mem_of_getElem? (i := 39) rfl))) Via.refl e3 F_firstRow E_a1 (Or.inr ⟨(hw _ (List.mem_of_getElem? (i := 40) rfl)), rfl, hnm⟩) (hw _ (List.mem_of_getElem? (i := 22) rfl)) (ty := .int) (by decide) rfl rfl (g := (mkF m 53 #[.val (.ref a1), .val (.int p2), .val (.int p3), .val (.int p4), .val (.int p5)] [(.int p4), (.ref a1)])) rfl rfl (hb hby d7_53)
  replace E_a1 := E_a1.wr W4
  replace F_firstColumn := F_firstColumn.other W4 (Or.inr (slot_ne (Or.inr (hw _ (List.mem_of_getElem? (i := 36) rfl))) (Or.inr (hw _ (List.mem_of_getElem? (i := 40) rfl))) (by decide) (t := .int) (t' := .int) (by decide) (by decide)))
  replace F_lastColumn := F_lastColumn.other W4 (Or.inr (slot_ne (Or.inr (hw _ (List.mem_of_getElem? (i := 38) rfl))) (Or.inr (hw _ (List.mem_of_getElem? (i := 40) rfl))) (by decide) (t := .int) (t' := .int) (by decide) (by decide)))
  replace F_firstRow := F_firstRow.same W4
  replace F_lastRow := F_lastRow.other W4 (Or.inr (slot_ne (Or.inr (hw _ (List.mem_of_getElem? (i := 42) rfl))) (Or.inr (hw _ (List.mem_of_getElem? (i := 40) rfl))) (by decide) (t := .int) (t' := .int) (by decide) (by decide)))
  have N4 := Fr.snoc X4 N3 g_a1
  have Z4 : n0 ≤ h4.size := Nat.le_trans Z3 (Keep.of_wr W4).1
  have K4 : Keep h0 h4 [a1] := K3.wr W4 (Or.inl (List.mem_of_getElem? (i := 0) rfl))
  refine go (B := T4.setTop (mkF m 56 #[.val (.ref a1), .val (.int p2), .val (.int p3), .val (.int p4), .val (.int p5)] [])) (fun _ k => st4 _ k) ?_
  refine go (B := T4.setTop (mkF m 57 #[.val (.ref a1), .val (.int p2), .val (.int p3), .val (.int p4), .val (.int p5)] [(.ref a1)])) (fun _ k => XS.aloadN X4.here hx rfl (hb hby d7_56) rfl rfl k) ?_
  refine go (B := T4.setTop (mkF m 59 #[.val (.ref a1), .val (.int p2), .val (.int p3), .val (.int p4), .val (.int p5)] [(.int p5), (.ref a1)])) (fun _ k => XS.iload X4.here hx rfl (hb hby d7_57) rfl k) ?_
  obtain ⟨T5, h5, X5, e5, W5, st5⟩ := putF X4 hx hZ hown (host := "") (Or.inl (hw _ (List.mem_of_getElem? (i := 41) rfl))) Via.refl e4 F_lastRow E_a1 (Or.inr ⟨(hw _ (List.mem_of_getElem? (i := 42) rfl)), rfl, hnm⟩) (hw _ (List.mem_of_getElem? (i := 22) rfl)) (ty := .int) (by decide) rfl rfl (g := (mkF m 59 #[.val (.ref a1), .val (.int p2), .val (.int p3), .val (.int p4), .val (.int p5)] [(.int p5), (.ref a1)])) rfl rfl (hb hby d7_59)
  replace E_a1 := E_a1.wr W5
  replace F_firstColumn := F_firstColumn.other W5 (Or.inr (slot_ne (Or.inr (hw _ (List.mem_of_getElem? (i := 36) rfl))) (Or.inr (hw _ (List.mem_of_getElem? (i := 42) rfl))) (by decide) (t := .int) (t' := .int) (by decide) (by decide)))
  replace F_lastColumn := F_lastColumn.other W5 (Or.inr (slot_ne (Or.inr (hw _ (List.mem_of_getElem? (i := 38) rfl))) (Or.inr (hw _ (List.mem_of_getElem? (i := 42) rfl))) (by decide) (t := .int) (t' := .int) (by decide) (by decide)))
  replace F_firstRow := F_firstRow.other W5 (Or.inr (slot_ne (Or.inr (hw _ (List.mem_of_getElem? (i := 40) rfl))) (Or.inr (hw _ (List.mem_of_getElem? (i := 42) rfl))) (by decide) (t := .int) (t' := .int) (by decide) (by decide)))
  replace F_lastRow := F_lastRow.same W5
  have N5 := Fr.snoc X5 N4 g_a1
  have Z5 : n0 ≤ h5.size := Nat.le_trans Z4 (Keep.of_wr W5).1
  have K5 : Keep h0 h5 [a1] := K4.wr W5 (Or.inl (List.mem_of_getElem? (i := 0) rfl))
  refine go (B := T5.setTop (mkF m 62 #[.val (.ref a1), .val (.int p2), .val (.int p3), .val (.int p4), .val (.int p5)] [])) (fun _ k => st5 _ k) ?_
  refine goRetV X5 hx Bd.returns hlk (hb hby d7_62) ?_ (by decide) (by decide)
  rw [e5]
  exact ⟨rfl, N5, Z5, K5, E_a1, F_firstColumn, F_lastColumn, F_firstRow, F_lastRow⟩
theorem ef_rm10 (m : MethodId) (a1 : Addr) (a2 : Addr) : entryFrame m #[(.ref a1), (.ref a2)] 2 = mkF m 0 #[.val (.ref a1), .val (.ref a2)] [] := by first | (simp [entryFrame, mkF, argsToLocals, Value.category]; done) | rfl
def Q10 (Z : State) (a1 : Addr) (a2 : Addr) (f1 : Int32) (l1 : Int32) (r1 : Int32) (s1 : Int32) (f2 : Int32) (l2 : Int32) (r2 : Int32) (s2 : Int32) (h0 : Heap) (n0 : Nat) (v : Option Value) (h : Heap) (L : List Loc) : Prop := v = some (.int (fOv f1 l1 r1 s1 f2 l2 r2 s2)) ∧ Fr n0 L ∧ h = h0
theorem d10_0 : decode prog_198_method_7_code 0 = .ok (.aload_n 0, 1) := by decide +kernel
theorem d10_1 : decode prog_198_method_7_code 1 = .ok (.getfield 16, 3) := by decide +kernel
theorem d10_4 : decode prog_198_method_7_code 4 = .ok (.aload_n 1, 1) := by decide +kernel
theorem d10_5 : decode prog_198_method_7_code 5 = .ok (.getfield 22, 3) := by decide +kernel
theorem d10_8 : decode prog_198_method_7_code 8 = .ok (.if_icmp .gt 40, 3) := by decide +kernel
theorem d10_48 : decode prog_198_method_7_code 48 = .ok (.iconst 0, 1) := by decide +kernel
theorem d10_49 : decode prog_198_method_7_code 49 = .ok (.ireturn, 1) := by decide +kernel
theorem d10_11 : decode prog_198_method_7_code 11 = .ok (.aload_n 1, 1) := by decide +kernel
theorem d10_12 : decode prog_198_method_7_code 12 = .ok (.getfield 16, 3) := by decide +kernel
theorem d10_15 : decode prog_198_method_7_code 15 = .ok (.aload_n 0, 1) := by decide +kernel
theorem d10_16 : decode prog_198_method_7_code 16 = .ok (.getfield 22, 3) := by decide +kernel
theorem d10_19 : decode prog_198_method_7_code 19 = .ok (.if_icmp .gt 29, 3) := by decide +kernel
theorem d10_22 : decode prog_198_method_7_code 22 = .ok (.aload_n 0, 1) := by decide +kernel
theorem d10_23 : decode prog_198_method_7_code 23 = .ok (.getfield 25, 3) := by decide +kernel
theorem d10_26 : decode prog_198_method_7_code 26 = .ok (.aload_n 1, 1) := by decide +kernel
theorem d10_27 : decode prog_198_method_7_code 27 = .ok (.getfield 28, 3) := by decide +kernel
theorem d10_30 : decode prog_198_method_7_code 30 = .ok (.if_icmp .gt 18, 3) := by decide +kernel
theorem d10_33 : decode prog_198_method_7_code 33 = .ok (.aload_n 1, 1) := by decide +kernel
theorem d10_34 : decode prog_198_method_7_code 34 = .ok (.getfield 25, 3) := by decide +kernel
theorem d10_37 : decode prog_198_method_7_code 37 = .ok (.aload_n 0, 1) := by decide +kernel
theorem d10_38 : decode prog_198_method_7_code 38 = .ok (.getfield 28, 3) := by decide +kernel
theorem d10_41 : decode prog_198_method_7_code 41 = .ok (.if_icmp .gt 7, 3) := by decide +kernel
theorem d10_44 : decode prog_198_method_7_code 44 = .ok (.iconst 1, 1) := by decide +kernel
theorem d10_45 : decode prog_198_method_7_code 45 = .ok (.goto 4, 3) := by decide +kernel
set_option maxRecDepth 65536 in
set_option maxHeartbeats 40000000 in
theorem rm10 (l : Launch) (Z : State) (a0 : Array Value) (hw : ∀ d ∈ tables_1, d.before a0 Z = true) (ws : List Jvm.Cond) (a1 : Addr) (a2 : Addr) (f1 : Int32) (l1 : Int32) (r1 : Int32) (s1 : Int32) (f2 : Int32) (l2 : Int32) (r2 : Int32) (s2 : Int32) (h0 : Heap) (n0 : Nat) (Z0 : n0 ≤ h0.size) (F1_firstColumn : Fld Z h0 a1 "com/example/eel_river/eelriver/space/CellRange" "firstColumn" "I" (.int f1)) (F1_lastColumn : Fld Z h0 a1 "com/example/eel_river/eelriver/space/CellRange" "lastColumn" "I" (.int l1)) (F1_firstRow : Fld Z h0 a1 "com/example/eel_river/eelriver/space/CellRange" "firstRow" "I" (.int r1)) (F1_lastRow : Fld Z h0 a1 "com/example/eel_river/eelriver/space/CellRange" "lastRow" "I" (.int s1)) (F2_firstColumn : Fld Z h0 a2 "com/example/eel_river/eelriver/space/CellRange" "firstColumn" "I" (.int f2)) (F2_lastColumn : Fld Z h0 a2 "com/example/eel_river/eelriver/space/CellRange" "lastColumn" "I" (.int l2)) (F2_firstRow : Fld Z h0 a2 "com/example/eel_river/eelriver/space/CellRange" "firstRow" "I" (.int r2)) (F2_lastRow : Fld Z h0 a2 "com/example/eel_river/eelriver/space/CellRange" "lastRow" "I" (.int s2)) :
    MetFree l (⟨"com/example/eel_river/eelriver/space/CellRange", "overlaps", "(Lcom/example/eel_river/eelriver/space/CellRange;)Z"⟩ : MethodName) (head1 (Jvm.Cond.code (⟨"com/example/eel_river/eelriver/space/CellRange", "overlaps", "(Lcom/example/eel_river/eelriver/space/CellRange;)Z"⟩ : MethodName) prog_198_method_7_code 2 (some .boolean) :: ws) ({ frames := 0, cells := 0, slots := 0, locals := 0 } : Room)) (fun a U => a = #[(.ref a1), (.ref a2)] ∧ Z.Warmed39 U.vm ∧ U.heap = h0) (fun _ _ _ _ _ => True) (fun _ U o U' => ∃ v L, o = .returned v ∧ Q10 Z a1 a2 f1 l1 r1 s1 f2 l2 r2 s2 h0 n0 v U'.heap L ∧ FrameEnd U o U' L ({ frames := 0, cells := 0, slots := 0, locals := 0 } : Room).cells ({ frames := 0, cells := 0, slots := 0, locals := 0 } : Room).slots) := by
  refine MetFree.of_bodySF (plainFor_of_name pn_com_example_eel_river_eelriver_space_CellRange) hisR ?_
  intro p e s m args below meth c s₁ Bd hml0 hP hK
  obtain ⟨rfl, hZ, hh⟩ := hP
  have hx := Bd.exec
  have hby := Bd.bytes
  have hml : c.maxLocals = 2 := hml0
  have hown : s.vm.findClass "com/example/eel_river/eelriver/space/CellRange" = some m.cls := findClass_of_methodNamed Bd.named
  have hnm := (name_of_methodNamed Bd.named Bd.method).1
  have hlk := Bd.notSynchronized
  have X0 : Stand p l e ({ frames := 0, cells := 0, slots := 0, locals := 0 } : Room) s m #[(.ref a1), (.ref a2)] below meth c s₁ [] 0 0 := Stand.of_body Bd
  have e0 : s₁.heap = h0 := by rw [← hh, Bd.state]; rfl
  have N0 := Fr.nil n0
  show Go p.tables e below s ({ frames := 0, cells := 0, slots := 0, locals := 0 } : Room).cells ({ frames := 0, cells := 0, slots := 0, locals := 0 } : Room).slots (Q10 Z a1 a2 f1 l1 r1 s1 f2 l2 r2 s2 h0 n0) _
  refine go (fun t k => castTop (ef_rm10 m a1 a2) k) ?_
  refine go (B := s₁.setTop (mkF m 1 #[.val (.ref a1), .val (.ref a2)] [(.ref a1)])) (fun _ k => XS.aloadN X0.here hx rfl (hb hby d10_0) rfl rfl k) ?_
  obtain ⟨T1, X1, e1, st1⟩ := getF X0 hx hZ hown (host := "") (Or.inl (hw _ (List.mem_of_getElem? (i := 35) rfl))) Via.refl e0 F1_firstColumn (g := (mkF m 1 #[.val (.ref a1), .val (.ref a2)] [(.ref a1)])) rfl rfl (hb hby d10_1)
  refine go (B := T1.setTop (mkF m 4 #[.val (.ref a1), .val (.ref a2)] [(.int f1)])) (fun _ k => st1 _ k) ?_
  refine go (B := T1.setTop (mkF m 5 #[.val (.ref a1), .val (.ref a2)] [(.ref a2), (.int f1)])) (fun _ k => XS.aloadN X1.here hx rfl (hb hby d10_4) rfl rfl k) ?_
  obtain ⟨T2, X2, e2, st2⟩ := getF X1 hx hZ hown (host := "") (Or.inl (hw _ (List.mem_of_getElem? (i := 37) rfl))) Via.refl e1 F2_lastColumn (g := (mkF m 5 #[.val (.ref a1), .val (.ref a2)] [(.ref a2), (.int f1)])) rfl rfl (hb hby d10_5)
  refine go (B := T2.setTop (mkF m 8 #[.val (.ref a1), .val (.ref a2)] [(.int l2), (.int f1)])) (fun _ k => st2 _ k) ?_
  by_cases hc8 : l2 < f1
  · refine go (B := T2.setTop (mkF m 48 #[.val (.ref a1), .val (.ref a2)] [])) (fun _ k => XS.icmpYes X2.here hx rfl (pc0 := 8) (pc' := 48) rfl (hb hby d10_8) rfl (tlt hc8).2.2.1 (by decide) (by decide) k) ?_
    refine go (B := T2.setTop (mkF m 49 #[.val (.ref a1), .val (.ref a2)] [(.int (0 : Int32))])) (fun _ k => XS.iconst X2.here hx rfl (hb hby d10_48) k) ?_
    refine goRetN X2 hx (t := .boolean) Bd.returns (by simp) hlk (hb hby d10_49) ?_ (by decide) (by decide)
    rw [e2]
    have q : fOv f1 l1 r1 s1 f2 l2 r2 s2 = (0 : Int32) := fOv_zero (by simp only [Int32.lt_iff_toInt_lt, Int64.lt_iff_toInt_lt, ← Int32.toInt_inj, ← Int64.toInt_inj, Int32.reduceToInt, Int64.reduceToInt] at hc8; omega)
    exact ⟨by rw [q]; rfl, N0, rfl⟩
  · refine go (B := T2.setTop (mkF m 11 #[.val (.ref a1), .val (.ref a2)] [])) (fun _ k => XS.icmpNo X2.here hx rfl (hb hby d10_8) rfl (flt hc8).2.2.1 k) ?_
    refine go (B := T2.setTop (mkF m 12 #[.val (.ref a1), .val (.ref a2)] [(.ref a2)])) (fun _ k => XS.aloadN X2.here hx rfl (hb hby d10_11) rfl rfl k) ?_
    obtain ⟨T3, X3, e3, st3⟩ := getF X2 hx hZ hown (host := "") (Or.inl (hw _ (List.mem_of_getElem? (i := 35) rfl))) Via.refl e2 F2_firstColumn (g := (mkF m 12 #[.val (.ref a1), .val (.ref a2)] [(.ref a2)])) rfl rfl (hb hby d10_12)
    refine go (B := T3.setTop (mkF m 15 #[.val (.ref a1), .val (.ref a2)] [(.int f2)])) (fun _ k => st3 _ k) ?_
    refine go (B := T3.setTop (mkF m 16 #[.val (.ref a1), .val (.ref a2)] [(.ref a1), (.int f2)])) (fun _ k => XS.aloadN X3.here hx rfl (hb hby d10_15) rfl rfl k) ?_
    obtain ⟨T4, X4, e4, st4⟩ := getF X3 hx hZ hown (host := "") (Or.inl (hw _ (List.mem_of_getElem? (i := 37) rfl))) Via.refl e3 F1_lastColumn (g := (mkF m 16 #[.val (.ref a1), .val (.ref a2)] [(.ref a1), (.int f2)])) rfl rfl (hb hby d10_16)
    refine go (B := T4.setTop (mkF m 19 #[.val (.ref a1), .val (.ref a2)] [(.int l1), (.int f2)])) (fun _ k => st4 _ k) ?_
    by_cases hc19 : l1 < f2
    · refine go (B := T4.setTop (mkF m 48 #[.val (.ref a1), .val (.ref a2)] [])) (fun _ k => XS.icmpYes X4.here hx rfl (pc0 := 19) (pc' := 48) rfl (hb hby d10_19) rfl (tlt hc19).2.2.1 (by decide) (by decide) k) ?_
      refine go (B := T4.setTop (mkF m 49 #[.val (.ref a1), .val (.ref a2)] [(.int (0 : Int32))])) (fun _ k => XS.iconst X4.here hx rfl (hb hby d10_48) k) ?_
      refine goRetN X4 hx (t := .boolean) Bd.returns (by simp) hlk (hb hby d10_49) ?_ (by decide) (by decide)
      rw [e4]
      have q : fOv f1 l1 r1 s1 f2 l2 r2 s2 = (0 : Int32) := fOv_zero (by simp only [Int32.lt_iff_toInt_lt, Int64.lt_iff_toInt_lt, ← Int32.toInt_inj, ← Int64.toInt_inj, Int32.reduceToInt, Int64.reduceToInt] at hc8 hc19; omega)
      exact ⟨by rw [q]; rfl, N0, rfl⟩
    · refine go (B := T4.setTop (mkF m 22 #[.val (.ref a1), .val (.ref a2)] [])) (fun _ k => XS.icmpNo X4.here hx rfl (hb hby d10_19) rfl (flt hc19).2.2.1 k) ?_
      refine go (B := T4.setTop (mkF m 23 #[.val (.ref a1), .val (.ref a2)] [(.ref a1)])) (fun _ k => XS.aloadN X4.here hx rfl (hb hby d10_22) rfl rfl k) ?_
      obtain ⟨T5, X5, e5, st5⟩ := getF X4 hx hZ hown (host := "") (Or.inl (hw _ (List.mem_of_getElem? (i := 39) rfl))) Via.refl e4 F1_firstRow (g := (mkF m 23 #[.val (.ref a1), .val (.ref a2)] [(.ref a1)])) rfl rfl (hb hby d10_23)
      refine go (B := T5.setTop (mkF m 26 #[.val (.ref a1), .val (.ref a2)] [(.int r1)])) (fun _ k => st5 _ k) ?_
      refine go (B := T5.setTop (mkF m 27 #[.val (.ref a1), .val (.ref a2)] [(.ref a2), (.int r1)])) (fun _ k => XS.aloadN X5.here hx rfl (hb hby d10_26) rfl rfl k) ?_
      obtain ⟨T6, X6, e6, st6⟩ := getF X5 hx hZ hown (host := "") (Or.inl (hw _ (List.mem_of_getElem? (i := 41) rfl))) Via.refl e5 F2_lastRow (g := (mkF m 27 #[.val (.ref a1), .val (.ref a2)] [(.ref a2), (.int r1)])) rfl rfl (hb hby d10_27)
      refine go (B := T6.setTop (mkF m 30 #[.val (.ref a1), .val (.ref a2)] [(.int s2), (.int r1)])) (fun _ k => st6 _ k) ?_
      by_cases hc30 : s2 < r1
      · refine go (B := T6.setTop (mkF m 48 #[.val (.ref a1), .val (.ref a2)] [])) (fun _ k => XS.icmpYes X6.here hx rfl (pc0 := 30) (pc' := 48) rfl (hb hby d10_30) rfl (tlt hc30).2.2.1 (by decide) (by decide) k) ?_
        refine go (B := T6.setTop (mkF m 49 #[.val (.ref a1), .val (.ref a2)] [(.int (0 : Int32))])) (fun _ k => XS.iconst X6.here hx rfl (hb hby d10_48) k) ?_
        refine goRetN X6 hx (t := .boolean) Bd.returns (by simp) hlk (hb hby d10_49) ?_ (by decide) (by decide)
        rw [e6]
        have q : fOv f1 l1 r1 s1 f2 l2 r2 s2 = (0 : Int32) := fOv_zero (by simp only [Int32.lt_iff_toInt_lt, Int64.lt_iff_toInt_lt, ← Int32.toInt_inj, ← Int64.toInt_inj, Int32.reduceToInt, Int64.reduceToInt] at hc8 hc19 hc30; omega)
        exact ⟨by rw [q]; rfl, N0, rfl⟩
      · refine go (B := T6.setTop (mkF m 33 #[.val (.ref a1), .val (.ref a2)] [])) (fun _ k => XS.icmpNo X6.here hx rfl (hb hby d10_30) rfl (flt hc30).2.2.1 k) ?_
        refine go (B := T6.setTop (mkF m 34 #[.val (.ref a1), .val (.ref a2)] [(.ref a2)])) (fun _ k => XS.aloadN X6.here hx rfl (hb hby d10_33) rfl rfl k) ?_
        obtain ⟨T7, X7, e7, st7⟩ := getF X6 hx hZ hown (host := "") (Or.inl (hw _ (List.mem_of_getElem? (i := 39) rfl))) Via.refl e6 F2_firstRow (g := (mkF m 34 #[.val (.ref a1), .val (.ref a2)] [(.ref a2)])) rfl rfl (hb hby d10_34)
        refine go (B := T7.setTop (mkF m 37 #[.val (.ref a1), .val (.ref a2)] [(.int r2)])) (fun _ k => st7 _ k) ?_
        refine go (B := T7.setTop (mkF m 38 #[.val (.ref a1), .val (.ref a2)] [(.ref a1), (.int r2)])) (fun _ k => XS.aloadN X7.here hx rfl (hb hby d10_37) rfl rfl k) ?_
        obtain ⟨T8, X8, e8, st8⟩ := getF X7 hx hZ hown (host := "") (Or.inl (hw _ (List.mem_of_getElem? (i := 41) rfl))) Via.refl e7 F1_lastRow (g := (mkF m 38 #[.val (.ref a1), .val (.ref a2)] [(.ref a1), (.int r2)])) rfl rfl (hb hby d10_38)
        refine go (B := T8.setTop (mkF m 41 #[.val (.ref a1), .val (.ref a2)] [(.int s1), (.int r2)])) (fun _ k => st8 _ k) ?_
        by_cases hc41 : s1 < r2
        · refine go (B := T8.setTop (mkF m 48 #[.val (.ref a1), .val (.ref a2)] [])) (fun _ k => XS.icmpYes X8.here hx rfl (pc0 := 41) (pc' := 48) rfl (hb hby d10_41) rfl (tlt hc41).2.2.1 (by decide) (by decide) k) ?_
          refine go (B := T8.setTop (mkF m 49 #[.val (.ref a1), .val (.ref a2)] [(.int (0 : Int32))])) (fun _ k => XS.iconst X8.here hx rfl (hb hby d10_48) k) ?_
          refine goRetN X8 hx (t := .boolean) Bd.returns (by simp) hlk (hb hby d10_49) ?_ (by decide) (by decide)
          rw [e8]
          have q : fOv f1 l1 r1 s1 f2 l2 r2 s2 = (0 : Int32) := fOv_zero (by simp only [Int32.lt_iff_toInt_lt, Int64.lt_iff_toInt_lt, ← Int32.toInt_inj, ← Int64.toInt_inj, Int32.reduceToInt, Int64.reduceToInt] at hc8 hc19 hc30 hc41; omega)
          exact ⟨by rw [q]; rfl, N0, rfl⟩
        · refine go (B := T8.setTop (mkF m 44 #[.val (.ref a1), .val (.ref a2)] [])) (fun _ k => XS.icmpNo X8.here hx rfl (hb hby d10_41) rfl (flt hc41).2.2.1 k) ?_
          refine go (B := T8.setTop (mkF m 45 #[.val (.ref a1), .val (.ref a2)] [(.int (1 : Int32))])) (fun _ k => XS.iconst X8.here hx rfl (hb hby d10_44) k) ?_
          refine go (B := T8.setTop (mkF m 49 #[.val (.ref a1), .val (.ref a2)] [(.int (1 : Int32))])) (fun _ k => XS.goto X8.here hx rfl (pc0 := 45) (pc' := 49) rfl (hb hby d10_45) (by decide) (by decide) k) ?_
          refine goRetN X8 hx (t := .boolean) Bd.returns (by simp) hlk (hb hby d10_49) ?_ (by decide) (by decide)
          rw [e8]
          have q : fOv f1 l1 r1 s1 f2 l2 r2 s2 = (1 : Int32) := fOv_one (by simp only [Int32.lt_iff_toInt_lt, Int64.lt_iff_toInt_lt, ← Int32.toInt_inj, ← Int64.toInt_inj, Int32.reduceToInt, Int64.reduceToInt] at hc8 hc19 hc30 hc41; omega)
          exact ⟨by rw [q]; rfl, N0, rfl⟩
theorem ef_rm0 (m : MethodId) (q1 : Int64) (q2 : Int64) (q3 : Int64) (q4 : Int64) : entryFrame m #[(.long q1), (.long q2), (.long q3), (.long q4)] maxLocals = mkF m 0 #[.val (.long q1), .second, .val (.long q2), .second, .val (.long q3), .second, .val (.long q4), .second, .unset, .unset, .unset, .unset, .unset, .unset, .unset, .unset, .unset, .unset, .unset, .unset, .unset, .unset, .unset] [] := by first | (simp [entryFrame, mkF, argsToLocals, Value.category, maxLocals]; done) | rfl
def Q0 (Z : State) (q1 : Int64) (q2 : Int64) (q3 : Int64) (q4 : Int64) (h0 : Heap) (n0 : Nat) (v : Option Value) (h : Heap) (L : List Loc) : Prop := v = some (.int 1) ∧ Fr n0 L
theorem pd__IIII_V : parseMethodDescriptor "(IIII)V" = some ⟨[.int, .int, .int, .int], none⟩ := by decide +kernel
theorem pd__Lcom_example_eel_river_eelriver_space_CellRange__Z : parseMethodDescriptor "(Lcom/example/eel_river/eelriver/space/CellRange;)Z" = some ⟨[(.object "com/example/eel_river/eelriver/space/CellRange")], some .boolean⟩ := by decide +kernel
theorem pd__III_Z : parseMethodDescriptor "(III)Z" = some ⟨[.int, .int, .int], some .boolean⟩ := by decide +kernel
set_option maxRecDepth 65536 in
set_option maxHeartbeats 40000000 in
theorem rm0 (l : Launch) (Z : State) (a0 : Array Value) (hw : ∀ d ∈ tables_1, d.before a0 Z = true) (ws : List Jvm.Cond) (q1 : Int64) (q2 : Int64) (q3 : Int64) (q4 : Int64) (h0 : Heap) (n0 : Nat) (Z0 : n0 ≤ h0.size) :
    MetFree l x (head1 (Jvm.Cond.code x code maxLocals ret :: ws) room_1) (fun a U => a = #[(.long q1), (.long q2), (.long q3), (.long q4)] ∧ Z.Warmed39 U.vm ∧ U.heap = h0) (fun _ _ _ _ _ => True) (fun _ U o U' => ∃ v L, o = .returned v ∧ Q0 Z q1 q2 q3 q4 h0 n0 v U'.heap L ∧ FrameEnd U o U' L room_1.cells room_1.slots) := by
  refine MetFree.of_bodySF (plainFor_of_name pn_com_example_eel_river_eelriver_space_CellRangeOverlapsPinLaw) hisR ?_
  intro p e s m args below meth c s₁ Bd hml0 hP hK
  obtain ⟨rfl, hZ, hh⟩ := hP
  have hx := Bd.exec
  have hby := Bd.bytes
  have hml : c.maxLocals = 23 := hml0
  have hown : s.vm.findClass "com/example/eel_river/eelriver/space/CellRangeOverlapsPinLaw" = some m.cls := findClass_of_methodNamed Bd.named
  have hnm := (name_of_methodNamed Bd.named Bd.method).1
  have hlk := Bd.notSynchronized
  have X0 : Stand p l e room_1 s m #[(.long q1), (.long q2), (.long q3), (.long q4)] below meth c s₁ [] 0 0 := Stand.of_body Bd
  have e0 : s₁.heap = h0 := by rw [← hh, Bd.state]; rfl
  have N0 := Fr.nil n0
  show Go p.tables e below s room_1.cells room_1.slots (Q0 Z q1 q2 q3 q4 h0 n0) _
  refine go (fun t k => castTop (ef_rm0 m q1 q2 q3 q4) k) ?_
  refine go (B := s₁.setTop (mkF m 1 #[.val (.long q1), .second, .val (.long q2), .second, .val (.long q3), .second, .val (.long q4), .second, .unset, .unset, .unset, .unset, .unset, .unset, .unset, .unset, .unset, .unset, .unset, .unset, .unset, .unset, .unset] [(.long q1)])) (fun _ k => XS.lloadN X0.here hx rfl (hb hby at_0) rfl k) ?_
  obtain ⟨_, _, ⟨T1, L1, k1, n1⟩, -, X1, ⟨Lc1, hQ1, l1, y1, z1⟩, st1⟩ := Jvm.LawKit.callS X0 hx (y := (⟨"com/example/eel_river/eelriver/space/CellRangeOverlapsPinLaw", "lo", "(J)I"⟩ : MethodName)) hown (mvT hZ (hw _ (List.mem_of_getElem? (i := 0) rfl))) (mvT hZ (hw _ (List.mem_of_getElem? (i := 1) rfl))) (mvT hZ (hw _ (List.mem_of_getElem? (i := 2) rfl))) (mvT hZ (hw _ (List.mem_of_getElem? (i := 3) rfl))) (by decide) (backOf (W := 0) (rm1 l Z a0 hw [] q1 h0 n0 Z0) hZ (hw _ (List.mem_of_getElem? (i := 3) rfl)) (hw _ (List.mem_of_getElem? (i := 2) rfl)) (by decide) (by decide)) (g := (mkF m 1 #[.val (.long q1), .second, .val (.long q2), .second, .val (.long q3), .second, .val (.long q4), .second, .unset, .unset, .unset, .unset, .unset, .unset, .unset, .unset, .unset, .unset, .unset, .unset, .unset, .unset, .unset] [(.long q1)])) rfl (by rw [hml]; rfl) (argsL := [(.long q1)]) (rest := []) (lenOf pd__J_I rfl) rfl (by show 2 * 0 + _ ≤ _; exact Nat.le_of_eq rfl) (hb hby at_1) (fun _ _ => ⟨rfl, e0, (by decide : 0 + 0 ≤ _), (by decide : 0 + 0 ≤ _)⟩)
  dsimp only [Pt.U, Pt.locs, Pt.cells, Pt.slots] at X1 l1 y1 z1 st1 hQ1
  subst l1 y1 z1
  obtain ⟨rfl, N1q, e1⟩ := hQ1
  have N1 := Fr.app N0 N1q
  refine go (B := T1.setTop (mkF m 4 #[.val (.long q1), .second, .val (.long q2), .second, .val (.long q3), .second, .val (.long q4), .second, .unset, .unset, .unset, .unset, .unset, .unset, .unset, .unset, .unset, .unset, .unset, .unset, .unset, .unset, .unset] [(.int (fLo q1))])) (fun _ k => st1 _ k) ?_
  refine go (B := T1.setTop (mkF m 6 #[.val (.long q1), .second, .val (.long q2), .second, .val (.long q3), .second, .val (.long q4), .second, .val (.int (fLo q1)), .unset, .unset, .unset, .unset, .unset, .unset, .unset, .unset, .unset, .unset, .unset, .unset, .unset, .unset] [])) (fun _ k => XS.istore X1.here hx rfl (hb hby at_4) rfl (l' := #[.val (.long q1), .second, .val (.long q2), .second, .val (.long q3), .second, .val (.long q4), .second, .val (.int (fLo q1)), .unset, .unset, .unset, .unset, .unset, .unset, .unset, .unset, .unset, .unset, .unset, .unset, .unset, .unset]) rfl k) ?_
  refine go (B := T1.setTop (mkF m 7 #[.val (.long q1), .second, .val (.long q2), .second, .val (.long q3), .second, .val (.long q4), .second, .val (.int (fLo q1)), .unset, .unset, .unset, .unset, .unset, .unset, .unset, .unset, .unset, .unset, .unset, .unset, .unset, .unset] [(.long q1)])) (fun _ k => XS.lloadN X1.here hx rfl (hb hby at_6) rfl k) ?_
  obtain ⟨_, _, ⟨T2, L2, k2, n2⟩, -, X2, ⟨Lc2, hQ2, l2, y2, z2⟩, st2⟩ := Jvm.LawKit.callS X1 hx (y := (⟨"com/example/eel_river/eelriver/space/CellRangeOverlapsPinLaw", "hi", "(J)I"⟩ : MethodName)) hown (mvT hZ (hw _ (List.mem_of_getElem? (i := 15) rfl))) (mvT hZ (hw _ (List.mem_of_getElem? (i := 16) rfl))) (mvT hZ (hw _ (List.mem_of_getElem? (i := 2) rfl))) (mvT hZ (hw _ (List.mem_of_getElem? (i := 17) rfl))) (by decide) (backOf (W := 0) (rm5 l Z a0 hw [] q1 h0 n0 Z0) hZ (hw _ (List.mem_of_getElem? (i := 17) rfl)) (hw _ (List.mem_of_getElem? (i := 2) rfl)) (by decide) (by decide)) (g := (mkF m 7 #[.val (.long q1), .second, .val (.long q2), .second, .val (.long q3), .second, .val (.long q4), .second, .val (.int (fLo q1)), .unset, .unset, .unset, .unset, .unset, .unset, .unset, .unset, .unset, .unset, .unset, .unset, .unset, .unset] [(.long q1)])) rfl (by rw [hml]; rfl) (argsL := [(.long q1)]) (rest := []) (lenOf pd__J_I rfl) rfl (by show 2 * 0 + _ ≤ _; exact Nat.le_of_eq rfl) (hb hby at_7) (fun _ _ => ⟨rfl, e1, (by decide : 0 + 0 ≤ _), (by decide : 0 + 0 ≤ _)⟩)
  dsimp only [Pt.U, Pt.locs, Pt.cells, Pt.slots] at X2 l2 y2 z2 st2 hQ2
  subst l2 y2 z2
  obtain ⟨rfl, N2q, e2⟩ := hQ2
  have N2 := Fr.app N1 N2q
  refine go (B := T2.setTop (mkF m 10 #[.val (.long q1), .second, .val (.long q2), .second, .val (.long q3), .second, .val (.long q4), .second, .val (.int (fLo q1)), .unset, .unset, .unset, .unset, .unset, .unset, .unset, .unset, .unset, .unset, .unset, .unset, .unset, .unset] [(.int (fHi q1))])) (fun _ k => st2 _ k) ?_
  refine go (B := T2.setTop (mkF m 12 #[.val (.long q1), .second, .val (.long q2), .second, .val (.long q3), .second, .val (.long q4), .second, .val (.int (fLo q1)), .val (.int (fHi q1)), .unset, .unset, .unset, .unset, .unset, .unset, .unset, .unset, .unset, .unset, .unset, .unset, .unset] [])) (fun _ k => XS.istore X2.here hx rfl (hb hby at_10) rfl (l' := #[.val (.long q1), .second, .val (.long q2), .second, .val (.long q3), .second, .val (.long q4), .second, .val (.int (fLo q1)), .val (.int (fHi q1)), .unset, .unset, .unset, .unset, .unset, .unset, .unset, .unset, .unset, .unset, .unset, .unset, .unset]) rfl k) ?_
  refine go (B := T2.setTop (mkF m 13 #[.val (.long q1), .second, .val (.long q2), .second, .val (.long q3), .second, .val (.long q4), .second, .val (.int (fLo q1)), .val (.int (fHi q1)), .unset, .unset, .unset, .unset, .unset, .unset, .unset, .unset, .unset, .unset, .unset, .unset, .unset] [(.long q2)])) (fun _ k => XS.lloadN X2.here hx rfl (hb hby at_12) rfl k) ?_
  obtain ⟨_, _, ⟨T3, L3, k3, n3⟩, -, X3, ⟨Lc3, hQ3, l3, y3, z3⟩, st3⟩ := Jvm.LawKit.callS X2 hx (y := (⟨"com/example/eel_river/eelriver/space/CellRangeOverlapsPinLaw", "lo", "(J)I"⟩ : MethodName)) hown (mvT hZ (hw _ (List.mem_of_getElem? (i := 0) rfl))) (mvT hZ (hw _ (List.mem_of_getElem? (i := 1) rfl))) (mvT hZ (hw _ (List.mem_of_getElem? (i := 2) rfl))) (mvT hZ (hw _ (List.mem_of_getElem? (i := 3) rfl))) (by decide) (backOf (W := 0) (rm1 l Z a0 hw [] q2 h0 n0 Z0) hZ (hw _ (List.mem_of_getElem? (i := 3) rfl)) (hw _ (List.mem_of_getElem? (i := 2) rfl)) (by decide) (by decide)) (g := (mkF m 13 #[.val (.long q1), .second, .val (.long q2), .second, .val (.long q3), .second, .val (.long q4), .second, .val (.int (fLo q1)), .val (.int (fHi q1)), .unset, .unset, .unset, .unset, .unset, .unset, .unset, .unset, .unset, .unset, .unset, .unset, .unset] [(.long q2)])) rfl (by rw [hml]; rfl) (argsL := [(.long q2)]) (rest := []) (lenOf pd__J_I rfl) rfl (by show 2 * 0 + _ ≤ _; exact Nat.le_of_eq rfl) (hb hby at_13) (fun _ _ => ⟨rfl, e2, (by decide : 0 + 0 ≤ _), (by decide : 0 + 0 ≤ _)⟩)
  dsimp only [Pt.U, Pt.locs, Pt.cells, Pt.slots] at X3 l3 y3 z3 st3 hQ3
  subst l3 y3 z3
  obtain ⟨rfl, N3q, e3⟩ := hQ3
  have N3 := Fr.app N2 N3q
  refine go (B := T3.setTop (mkF m 16 #[.val (.long q1), .second, .val (.long q2), .second, .val (.long q3), .second, .val (.long q4), .second, .val (.int (fLo q1)), .val (.int (fHi q1)), .unset, .unset, .unset, .unset, .unset, .unset, .unset, .unset, .unset, .unset, .unset, .unset, .unset] [(.int (fLo q2))])) (fun _ k => st3 _ k) ?_
  refine go (B := T3.setTop (mkF m 18 #[.val (.long q1), .second, .val (.long q2), .second, .val (.long q3), .second, .val (.long q4), .second, .val (.int (fLo q1)), .val (.int (fHi q1)), .val (.int (fLo q2)), .unset, .unset, .unset, .unset, .unset, .unset, .unset, .unset, .unset, .unset, .unset, .unset] [])) (fun _ k => XS.istore X3.here hx rfl (hb hby at_16) rfl (l' := #[.val (.long q1), .second, .val (.long q2), .second, .val (.long q3), .second, .val (.long q4), .second, .val (.int (fLo q1)), .val (.int (fHi q1)), .val (.int (fLo q2)), .unset, .unset, .unset, .unset, .unset, .unset, .unset, .unset, .unset, .unset, .unset, .unset]) rfl k) ?_
  refine go (B := T3.setTop (mkF m 19 #[.val (.long q1), .second, .val (.long q2), .second, .val (.long q3), .second, .val (.long q4), .second, .val (.int (fLo q1)), .val (.int (fHi q1)), .val (.int (fLo q2)), .unset, .unset, .unset, .unset, .unset, .unset, .unset, .unset, .unset, .unset, .unset, .unset] [(.long q2)])) (fun _ k => XS.lloadN X3.here hx rfl (hb hby at_18) rfl k) ?_
  obtain ⟨_, _, ⟨T4, L4, k4, n4⟩, -, X4, ⟨Lc4, hQ4, l4, y4, z4⟩, st4⟩ := Jvm.LawKit.callS X3 hx (y := (⟨"com/example/eel_river/eelriver/space/CellRangeOverlapsPinLaw", "hi", "(J)I"⟩ : MethodName)) hown (mvT hZ (hw _ (List.mem_of_getElem? (i := 15) rfl))) (mvT hZ (hw _ (List.mem_of_getElem? (i := 16) rfl))) (mvT hZ (hw _ (List.mem_of_getElem? (i := 2) rfl))) (mvT hZ (hw _ (List.mem_of_getElem? (i := 17) rfl))) (by decide) (backOf (W := 0) (rm5 l Z a0 hw [] q2 h0 n0 Z0) hZ (hw _ (List.mem_of_getElem? (i := 17) rfl)) (hw _ (List.mem_of_getElem? (i := 2) rfl)) (by decide) (by decide)) (g := (mkF m 19 #[.val (.long q1), .second, .val (.long q2), .second, .val (.long q3), .second, .val (.long q4), .second, .val (.int (fLo q1)), .val (.int (fHi q1)), .val (.int (fLo q2)), .unset, .unset, .unset, .unset, .unset, .unset, .unset, .unset, .unset, .unset, .unset, .unset] [(.long q2)])) rfl (by rw [hml]; rfl) (argsL := [(.long q2)]) (rest := []) (lenOf pd__J_I rfl) rfl (by show 2 * 0 + _ ≤ _; exact Nat.le_of_eq rfl) (hb hby at_19) (fun _ _ => ⟨rfl, e3, (by decide : 0 + 0 ≤ _), (by decide : 0 + 0 ≤ _)⟩)
  dsimp only [Pt.U, Pt.locs, Pt.cells, Pt.slots] at X4 l4 y4 z4 st4 hQ4
  subst l4 y4 z4
  obtain ⟨rfl, N4q, e4⟩ := hQ4
  have N4 := Fr.app N3 N4q
  refine go (B := T4.setTop (mkF m 22 #[.val (.long q1), .second, .val (.long q2), .second, .val (.long q3), .second, .val (.long q4), .second, .val (.int (fLo q1)), .val (.int (fHi q1)), .val (.int (fLo q2)), .unset, .unset, .unset, .unset, .unset, .unset, .unset, .unset, .unset, .unset, .unset, .unset] [(.int (fHi q2))])) (fun _ k => st4 _ k) ?_
  refine go (B := T4.setTop (mkF m 24 #[.val (.long q1), .second, .val (.long q2), .second, .val (.long q3), .second, .val (.long q4), .second, .val (.int (fLo q1)), .val (.int (fHi q1)), .val (.int (fLo q2)), .val (.int (fHi q2)), .unset, .unset, .unset, .unset, .unset, .unset, .unset, .unset, .unset, .unset, .unset] [])) (fun _ k => XS.istore X4.here hx rfl (hb hby at_22) rfl (l' := #[.val (.long q1), .second, .val (.long q2), .second, .val (.long q3), .second, .val (.long q4), .second, .val (.int (fLo q1)), .val (.int (fHi q1)), .val (.int (fLo q2)), .val (.int (fHi q2)), .unset, .unset, .unset, .unset, .unset, .unset, .unset, .unset, .unset, .unset, .unset]) rfl k) ?_
  refine go (B := T4.setTop (mkF m 26 #[.val (.long q1), .second, .val (.long q2), .second, .val (.long q3), .second, .val (.long q4), .second, .val (.int (fLo q1)), .val (.int (fHi q1)), .val (.int (fLo q2)), .val (.int (fHi q2)), .unset, .unset, .unset, .unset, .unset, .unset, .unset, .unset, .unset, .unset, .unset] [(.long q3)])) (fun _ k => XS.lload X4.here hx rfl (hb hby at_24) rfl k) ?_
  obtain ⟨_, _, ⟨T5, L5, k5, n5⟩, -, X5, ⟨Lc5, hQ5, l5, y5, z5⟩, st5⟩ := Jvm.LawKit.callS X4 hx (y := (⟨"com/example/eel_river/eelriver/space/CellRangeOverlapsPinLaw", "lo", "(J)I"⟩ : MethodName)) hown (mvT hZ (hw _ (List.mem_of_getElem? (i := 0) rfl))) (mvT hZ (hw _ (List.mem_of_getElem? (i := 1) rfl))) (mvT hZ (hw _ (List.mem_of_getElem? (i := 2) rfl))) (mvT hZ (hw _ (List.mem_of_getElem? (i := 3) rfl))) (by decide) (backOf (W := 0) (rm1 l Z a0 hw [] q3 h0 n0 Z0) hZ (hw _ (List.mem_of_getElem? (i := 3) rfl)) (hw _ (List.mem_of_getElem? (i := 2) rfl)) (by decide) (by decide)) (g := (mkF m 26 #[.val (.long q1), .second, .val (.long q2), .second, .val (.long q3), .second, .val (.long q4), .second, .val (.int (fLo q1)), .val (.int (fHi q1)), .val (.int (fLo q2)), .val (.int (fHi q2)), .unset, .unset, .unset, .unset, .unset, .unset, .unset, .unset, .unset, .unset, .unset] [(.long q3)])) rfl (by rw [hml]; rfl) (argsL := [(.long q3)]) (rest := []) (lenOf pd__J_I rfl) rfl (by show 2 * 0 + _ ≤ _; exact Nat.le_of_eq rfl) (hb hby at_26) (fun _ _ => ⟨rfl, e4, (by decide : 0 + 0 ≤ _), (by decide : 0 + 0 ≤ _)⟩)
  dsimp only [Pt.U, Pt.locs, Pt.cells, Pt.slots] at X5 l5 y5 z5 st5 hQ5
  subst l5 y5 z5
  obtain ⟨rfl, N5q, e5⟩ := hQ5
  have N5 := Fr.app N4 N5q
  refine go (B := T5.setTop (mkF m 29 #[.val (.long q1), .second, .val (.long q2), .second, .val (.long q3), .second, .val (.long q4), .second, .val (.int (fLo q1)), .val (.int (fHi q1)), .val (.int (fLo q2)), .val (.int (fHi q2)), .unset, .unset, .unset, .unset, .unset, .unset, .unset, .unset, .unset, .unset, .unset] [(.int (fLo q3))])) (fun _ k => st5 _ k) ?_
  refine go (B := T5.setTop (mkF m 31 #[.val (.long q1), .second, .val (.long q2), .second, .val (.long q3), .second, .val (.long q4), .second, .val (.int (fLo q1)), .val (.int (fHi q1)), .val (.int (fLo q2)), .val (.int (fHi q2)), .val (.int (fLo q3)), .unset, .unset, .unset, .unset, .unset, .unset, .unset, .unset, .unset, .unset] [])) (fun _ k => XS.istore X5.here hx rfl (hb hby at_29) rfl (l' := #[.val (.long q1), .second, .val (.long q2), .second, .val (.long q3), .second, .val (.long q4), .second, .val (.int (fLo q1)), .val (.int (fHi q1)), .val (.int (fLo q2)), .val (.int (fHi q2)), .val (.int (fLo q3)), .unset, .unset, .unset, .unset, .unset, .unset, .unset, .unset, .unset, .unset]) rfl k) ?_
  refine go (B := T5.setTop (mkF m 33 #[.val (.long q1), .second, .val (.long q2), .second, .val (.long q3), .second, .val (.long q4), .second, .val (.int (fLo q1)), .val (.int (fHi q1)), .val (.int (fLo q2)), .val (.int (fHi q2)), .val (.int (fLo q3)), .unset, .unset, .unset, .unset, .unset, .unset, .unset, .unset, .unset, .unset] [(.long q3)])) (fun _ k => XS.lload X5.here hx rfl (hb hby at_31) rfl k) ?_
  obtain ⟨_, _, ⟨T6, L6, k6, n6⟩, -, X6, ⟨Lc6, hQ6, l6, y6, z6⟩, st6⟩ := Jvm.LawKit.callS X5 hx (y := (⟨"com/example/eel_river/eelriver/space/CellRangeOverlapsPinLaw", "hi", "(J)I"⟩ : MethodName)) hown (mvT hZ (hw _ (List.mem_of_getElem? (i := 15) rfl))) (mvT hZ (hw _ (List.mem_of_getElem? (i := 16) rfl))) (mvT hZ (hw _ (List.mem_of_getElem? (i := 2) rfl))) (mvT hZ (hw _ (List.mem_of_getElem? (i := 17) rfl))) (by decide) (backOf (W := 0) (rm5 l Z a0 hw [] q3 h0 n0 Z0) hZ (hw _ (List.mem_of_getElem? (i := 17) rfl)) (hw _ (List.mem_of_getElem? (i := 2) rfl)) (by decide) (by decide)) (g := (mkF m 33 #[.val (.long q1), .second, .val (.long q2), .second, .val (.long q3), .second, .val (.long q4), .second, .val (.int (fLo q1)), .val (.int (fHi q1)), .val (.int (fLo q2)), .val (.int (fHi q2)), .val (.int (fLo q3)), .unset, .unset, .unset, .unset, .unset, .unset, .unset, .unset, .unset, .unset] [(.long q3)])) rfl (by rw [hml]; rfl) (argsL := [(.long q3)]) (rest := []) (lenOf pd__J_I rfl) rfl (by show 2 * 0 + _ ≤ _; exact Nat.le_of_eq rfl) (hb hby at_33) (fun _ _ => ⟨rfl, e5, (by decide : 0 + 0 ≤ _), (by decide : 0 + 0 ≤ _)⟩)
  dsimp only [Pt.U, Pt.locs, Pt.cells, Pt.slots] at X6 l6 y6 z6 st6 hQ6
  subst l6 y6 z6
  obtain ⟨rfl, N6q, e6⟩ := hQ6
  have N6 := Fr.app N5 N6q
  refine go (B := T6.setTop (mkF m 36 #[.val (.long q1), .second, .val (.long q2), .second, .val (.long q3), .second, .val (.long q4), .second, .val (.int (fLo q1)), .val (.int (fHi q1)), .val (.int (fLo q2)), .val (.int (fHi q2)), .val (.int (fLo q3)), .unset, .unset, .unset, .unset, .unset, .unset, .unset, .unset, .unset, .unset] [(.int (fHi q3))])) (fun _ k => st6 _ k) ?_
  refine go (B := T6.setTop (mkF m 38 #[.val (.long q1), .second, .val (.long q2), .second, .val (.long q3), .second, .val (.long q4), .second, .val (.int (fLo q1)), .val (.int (fHi q1)), .val (.int (fLo q2)), .val (.int (fHi q2)), .val (.int (fLo q3)), .val (.int (fHi q3)), .unset, .unset, .unset, .unset, .unset, .unset, .unset, .unset, .unset] [])) (fun _ k => XS.istore X6.here hx rfl (hb hby at_36) rfl (l' := #[.val (.long q1), .second, .val (.long q2), .second, .val (.long q3), .second, .val (.long q4), .second, .val (.int (fLo q1)), .val (.int (fHi q1)), .val (.int (fLo q2)), .val (.int (fHi q2)), .val (.int (fLo q3)), .val (.int (fHi q3)), .unset, .unset, .unset, .unset, .unset, .unset, .unset, .unset, .unset]) rfl k) ?_
  refine go (B := T6.setTop (mkF m 40 #[.val (.long q1), .second, .val (.long q2), .second, .val (.long q3), .second, .val (.long q4), .second, .val (.int (fLo q1)), .val (.int (fHi q1)), .val (.int (fLo q2)), .val (.int (fHi q2)), .val (.int (fLo q3)), .val (.int (fHi q3)), .unset, .unset, .unset, .unset, .unset, .unset, .unset, .unset, .unset] [(.long q4)])) (fun _ k => XS.lload X6.here hx rfl (hb hby at_38) rfl k) ?_
  obtain ⟨_, _, ⟨T7, L7, k7, n7⟩, -, X7, ⟨Lc7, hQ7, l7, y7, z7⟩, st7⟩ := Jvm.LawKit.callS X6 hx (y := (⟨"com/example/eel_river/eelriver/space/CellRangeOverlapsPinLaw", "lo", "(J)I"⟩ : MethodName)) hown (mvT hZ (hw _ (List.mem_of_getElem? (i := 0) rfl))) (mvT hZ (hw _ (List.mem_of_getElem? (i := 1) rfl))) (mvT hZ (hw _ (List.mem_of_getElem? (i := 2) rfl))) (mvT hZ (hw _ (List.mem_of_getElem? (i := 3) rfl))) (by decide) (backOf (W := 0) (rm1 l Z a0 hw [] q4 h0 n0 Z0) hZ (hw _ (List.mem_of_getElem? (i := 3) rfl)) (hw _ (List.mem_of_getElem? (i := 2) rfl)) (by decide) (by decide)) (g := (mkF m 40 #[.val (.long q1), .second, .val (.long q2), .second, .val (.long q3), .second, .val (.long q4), .second, .val (.int (fLo q1)), .val (.int (fHi q1)), .val (.int (fLo q2)), .val (.int (fHi q2)), .val (.int (fLo q3)), .val (.int (fHi q3)), .unset, .unset, .unset, .unset, .unset, .unset, .unset, .unset, .unset] [(.long q4)])) rfl (by rw [hml]; rfl) (argsL := [(.long q4)]) (rest := []) (lenOf pd__J_I rfl) rfl (by show 2 * 0 + _ ≤ _; exact Nat.le_of_eq rfl) (hb hby at_40) (fun _ _ => ⟨rfl, e6, (by decide : 0 + 0 ≤ _), (by decide : 0 + 0 ≤ _)⟩)
  dsimp only [Pt.U, Pt.locs, Pt.cells, Pt.slots] at X7 l7 y7 z7 st7 hQ7
  subst l7 y7 z7
  obtain ⟨rfl, N7q, e7⟩ := hQ7
  have N7 := Fr.app N6 N7q
  refine go (B := T7.setTop (mkF m 43 #[.val (.long q1), .second, .val (.long q2), .second, .val (.long q3), .second, .val (.long q4), .second, .val (.int (fLo q1)), .val (.int (fHi q1)), .val (.int (fLo q2)), .val (.int (fHi q2)), .val (.int (fLo q3)), .val (.int (fHi q3)), .unset, .unset, .unset, .unset, .unset, .unset, .unset, .unset, .unset] [(.int (fLo q4))])) (fun _ k => st7 _ k) ?_
  refine go (B := T7.setTop (mkF m 45 #[.val (.long q1), .second, .val (.long q2), .second, .val (.long q3), .second, .val (.long q4), .second, .val (.int (fLo q1)), .val (.int (fHi q1)), .val (.int (fLo q2)), .val (.int (fHi q2)), .val (.int (fLo q3)), .val (.int (fHi q3)), .val (.int (fLo q4)), .unset, .unset, .unset, .unset, .unset, .unset, .unset, .unset] [])) (fun _ k => XS.istore X7.here hx rfl (hb hby at_43) rfl (l' := #[.val (.long q1), .second, .val (.long q2), .second, .val (.long q3), .second, .val (.long q4), .second, .val (.int (fLo q1)), .val (.int (fHi q1)), .val (.int (fLo q2)), .val (.int (fHi q2)), .val (.int (fLo q3)), .val (.int (fHi q3)), .val (.int (fLo q4)), .unset, .unset, .unset, .unset, .unset, .unset, .unset, .unset]) rfl k) ?_
  refine go (B := T7.setTop (mkF m 47 #[.val (.long q1), .second, .val (.long q2), .second, .val (.long q3), .second, .val (.long q4), .second, .val (.int (fLo q1)), .val (.int (fHi q1)), .val (.int (fLo q2)), .val (.int (fHi q2)), .val (.int (fLo q3)), .val (.int (fHi q3)), .val (.int (fLo q4)), .unset, .unset, .unset, .unset, .unset, .unset, .unset, .unset] [(.long q4)])) (fun _ k => XS.lload X7.here hx rfl (hb hby at_45) rfl k) ?_
  obtain ⟨_, _, ⟨T8, L8, k8, n8⟩, -, X8, ⟨Lc8, hQ8, l8, y8, z8⟩, st8⟩ := Jvm.LawKit.callS X7 hx (y := (⟨"com/example/eel_river/eelriver/space/CellRangeOverlapsPinLaw", "hi", "(J)I"⟩ : MethodName)) hown (mvT hZ (hw _ (List.mem_of_getElem? (i := 15) rfl))) (mvT hZ (hw _ (List.mem_of_getElem? (i := 16) rfl))) (mvT hZ (hw _ (List.mem_of_getElem? (i := 2) rfl))) (mvT hZ (hw _ (List.mem_of_getElem? (i := 17) rfl))) (by decide) (backOf (W := 0) (rm5 l Z a0 hw [] q4 h0 n0 Z0) hZ (hw _ (List.mem_of_getElem? (i := 17) rfl)) (hw _ (List.mem_of_getElem? (i := 2) rfl)) (by decide) (by decide)) (g := (mkF m 47 #[.val (.long q1), .second, .val (.long q2), .second, .val (.long q3), .second, .val (.long q4), .second, .val (.int (fLo q1)), .val (.int (fHi q1)), .val (.int (fLo q2)), .val (.int (fHi q2)), .val (.int (fLo q3)), .val (.int (fHi q3)), .val (.int (fLo q4)), .unset, .unset, .unset, .unset, .unset, .unset, .unset, .unset] [(.long q4)])) rfl (by rw [hml]; rfl) (argsL := [(.long q4)]) (rest := []) (lenOf pd__J_I rfl) rfl (by show 2 * 0 + _ ≤ _; exact Nat.le_of_eq rfl) (hb hby at_47) (fun _ _ => ⟨rfl, e7, (by decide : 0 + 0 ≤ _), (by decide : 0 + 0 ≤ _)⟩)
  dsimp only [Pt.U, Pt.locs, Pt.cells, Pt.slots] at X8 l8 y8 z8 st8 hQ8
  subst l8 y8 z8
  obtain ⟨rfl, N8q, e8⟩ := hQ8
  have N8 := Fr.app N7 N8q
  refine go (B := T8.setTop (mkF m 50 #[.val (.long q1), .second, .val (.long q2), .second, .val (.long q3), .second, .val (.long q4), .second, .val (.int (fLo q1)), .val (.int (fHi q1)), .val (.int (fLo q2)), .val (.int (fHi q2)), .val (.int (fLo q3)), .val (.int (fHi q3)), .val (.int (fLo q4)), .unset, .unset, .unset, .unset, .unset, .unset, .unset, .unset] [(.int (fHi q4))])) (fun _ k => st8 _ k) ?_
  refine go (B := T8.setTop (mkF m 52 #[.val (.long q1), .second, .val (.long q2), .second, .val (.long q3), .second, .val (.long q4), .second, .val (.int (fLo q1)), .val (.int (fHi q1)), .val (.int (fLo q2)), .val (.int (fHi q2)), .val (.int (fLo q3)), .val (.int (fHi q3)), .val (.int (fLo q4)), .val (.int (fHi q4)), .unset, .unset, .unset, .unset, .unset, .unset, .unset] [])) (fun _ k => XS.istore X8.here hx rfl (hb hby at_50) rfl (l' := #[.val (.long q1), .second, .val (.long q2), .second, .val (.long q3), .second, .val (.long q4), .second, .val (.int (fLo q1)), .val (.int (fHi q1)), .val (.int (fLo q2)), .val (.int (fHi q2)), .val (.int (fLo q3)), .val (.int (fHi q3)), .val (.int (fLo q4)), .val (.int (fHi q4)), .unset, .unset, .unset, .unset, .unset, .unset, .unset]) rfl k) ?_
  obtain ⟨T9, h9, X9, e9, E9, A9, D9, -, st9⟩ := newO X8 hx hZ hown (hw _ (List.mem_of_getElem? (i := 21) rfl)) (hw _ (List.mem_of_getElem? (i := 22) rfl)) (hw _ (List.mem_of_getElem? (i := 23) rfl)) e8 (g := (mkF m 52 #[.val (.long q1), .second, .val (.long q2), .second, .val (.long q3), .second, .val (.long q4), .second, .val (.int (fLo q1)), .val (.int (fHi q1)), .val (.int (fLo q2)), .val (.int (fHi q2)), .val (.int (fLo q3)), .val (.int (fHi q3)), .val (.int (fLo q4)), .val (.int (fHi q4)), .unset, .unset, .unset, .unset, .unset, .unset, .unset] [])) rfl (hb hby at_52) (by decide) (by decide)
  obtain ⟨b9, g9⟩ : ∃ z, z = Array.size (h0) := ⟨_, rfl⟩
  rw [← g9] at A9 D9 st9
  have g_b9 : n0 ≤ b9 := Nat.le_trans Z0 (Nat.le_of_eq g9.symm)
  have Z9 : n0 ≤ h9.size := Nat.le_trans Z0 E9.1
  have F_firstColumn_b9 : Fld Z h9 b9 "com/example/eel_river/eelriver/space/CellRange" "firstColumn" "I" (.int (0 : Int32)) := D9 (Or.inr (hw _ (List.mem_of_getElem? (i := 36) rfl))) (ty := .int) (by decide)
  have F_lastColumn_b9 : Fld Z h9 b9 "com/example/eel_river/eelriver/space/CellRange" "lastColumn" "I" (.int (0 : Int32)) := D9 (Or.inr (hw _ (List.mem_of_getElem? (i := 38) rfl))) (ty := .int) (by decide)
  have F_firstRow_b9 : Fld Z h9 b9 "com/example/eel_river/eelriver/space/CellRange" "firstRow" "I" (.int (0 : Int32)) := D9 (Or.inr (hw _ (List.mem_of_getElem? (i := 40) rfl))) (ty := .int) (by decide)
  have F_lastRow_b9 : Fld Z h9 b9 "com/example/eel_river/eelriver/space/CellRange" "lastRow" "I" (.int (0 : Int32)) := D9 (Or.inr (hw _ (List.mem_of_getElem? (i := 42) rfl))) (ty := .int) (by decide)
  refine go (B := T9.setTop (mkF m 55 #[.val (.long q1), .second, .val (.long q2), .second, .val (.long q3), .second, .val (.long q4), .second, .val (.int (fLo q1)), .val (.int (fHi q1)), .val (.int (fLo q2)), .val (.int (fHi q2)), .val (.int (fLo q3)), .val (.int (fHi q3)), .val (.int (fLo q4)), .val (.int (fHi q4)), .unset, .unset, .unset, .unset, .unset, .unset, .unset] [(.ref b9)])) (fun _ k => st9 _ k) ?_
  refine go (B := T9.setTop (mkF m 56 #[.val (.long q1), .second, .val (.long q2), .second, .val (.long q3), .second, .val (.long q4), .second, .val (.int (fLo q1)), .val (.int (fHi q1)), .val (.int (fLo q2)), .val (.int (fHi q2)), .val (.int (fLo q3)), .val (.int (fHi q3)), .val (.int (fLo q4)), .val (.int (fHi q4)), .unset, .unset, .unset, .unset, .unset, .unset, .unset] [(.ref b9), (.ref b9)])) (fun _ k => XS.dup X9.here hx rfl (hb hby at_55) rfl rfl k) ?_
  refine go (B := T9.setTop (mkF m 58 #[.val (.long q1), .second, .val (.long q2), .second, .val (.long q3), .second, .val (.long q4), .second, .val (.int (fLo q1)), .val (.int (fHi q1)), .val (.int (fLo q2)), .val (.int (fHi q2)), .val (.int (fLo q3)), .val (.int (fHi q3)), .val (.int (fLo q4)), .val (.int (fHi q4)), .unset, .unset, .unset, .unset, .unset, .unset, .unset] [(.int (fLo q1)), (.ref b9), (.ref b9)])) (fun _ k => XS.iload X9.here hx rfl (hb hby at_56) rfl k) ?_
  refine go (B := T9.setTop (mkF m 60 #[.val (.long q1), .second, .val (.long q2), .second, .val (.long q3), .second, .val (.long q4), .second, .val (.int (fLo q1)), .val (.int (fHi q1)), .val (.int (fLo q2)), .val (.int (fHi q2)), .val (.int (fLo q3)), .val (.int (fHi q3)), .val (.int (fLo q4)), .val (.int (fHi q4)), .unset, .unset, .unset, .unset, .unset, .unset, .unset] [(.int (fHi q1)), (.int (fLo q1)), (.ref b9), (.ref b9)])) (fun _ k => XS.iload X9.here hx rfl (hb hby at_58) rfl k) ?_
  refine go (B := T9.setTop (mkF m 62 #[.val (.long q1), .second, .val (.long q2), .second, .val (.long q3), .second, .val (.long q4), .second, .val (.int (fLo q1)), .val (.int (fHi q1)), .val (.int (fLo q2)), .val (.int (fHi q2)), .val (.int (fLo q3)), .val (.int (fHi q3)), .val (.int (fLo q4)), .val (.int (fHi q4)), .unset, .unset, .unset, .unset, .unset, .unset, .unset] [(.int (fLo q2)), (.int (fHi q1)), (.int (fLo q1)), (.ref b9), (.ref b9)])) (fun _ k => XS.iload X9.here hx rfl (hb hby at_60) rfl k) ?_
  refine go (B := T9.setTop (mkF m 64 #[.val (.long q1), .second, .val (.long q2), .second, .val (.long q3), .second, .val (.long q4), .second, .val (.int (fLo q1)), .val (.int (fHi q1)), .val (.int (fLo q2)), .val (.int (fHi q2)), .val (.int (fLo q3)), .val (.int (fHi q3)), .val (.int (fLo q4)), .val (.int (fHi q4)), .unset, .unset, .unset, .unset, .unset, .unset, .unset] [(.int (fHi q2)), (.int (fLo q2)), (.int (fHi q1)), (.int (fLo q1)), (.ref b9), (.ref b9)])) (fun _ k => XS.iload X9.here hx rfl (hb hby at_62) rfl k) ?_
  obtain ⟨_, _, ⟨T10, L10, k10, n10⟩, -, X10, ⟨Lc10, hQ10, l10, y10, z10⟩, st10⟩ := X9.specialBack hx (y := (⟨"com/example/eel_river/eelriver/space/CellRange", "<init>", "(IIII)V"⟩ : MethodName)) rfl hown (mvT hZ (hw _ (List.mem_of_getElem? (i := 24) rfl))) (mvT hZ (hw _ (List.mem_of_getElem? (i := 25) rfl))) (mvT hZ (hw _ (List.mem_of_getElem? (i := 26) rfl))) (by decide) (backOf (W := 1) (rm7 l Z a0 hw [] b9 (fLo q1) (fHi q1) (fLo q2) (fHi q2) (.int (0 : Int32)) (.int (0 : Int32)) (.int (0 : Int32)) (.int (0 : Int32)) h9 n0 Z9 A9 F_firstColumn_b9 F_lastColumn_b9 F_firstRow_b9 F_lastRow_b9 g_b9 (lo_hi q1).1 (lo_hi q1).2 (lo_hi q2).1 (lo_hi q2).2) hZ (hw _ (List.mem_of_getElem? (i := 26) rfl)) (hw _ (List.mem_of_getElem? (i := 23) rfl)) (by decide) (by decide)) (g := (mkF m 64 #[.val (.long q1), .second, .val (.long q2), .second, .val (.long q3), .second, .val (.long q4), .second, .val (.int (fLo q1)), .val (.int (fHi q1)), .val (.int (fLo q2)), .val (.int (fHi q2)), .val (.int (fLo q3)), .val (.int (fHi q3)), .val (.int (fLo q4)), .val (.int (fHi q4)), .unset, .unset, .unset, .unset, .unset, .unset, .unset] [(.int (fHi q2)), (.int (fLo q2)), (.int (fHi q1)), (.int (fLo q1)), (.ref b9), (.ref b9)])) rfl (by rw [hml]; rfl) (Steps.refl _) (a := b9) (argsL := [(.int (fLo q1)), (.int (fHi q1)), (.int (fLo q2)), (.int (fHi q2))]) (rest := [(.ref b9)]) (lenOf pd__IIII_V rfl) rfl (by show 2 * 0 + _ ≤ _; exact Nat.le_of_eq rfl) (hb hby at_64) (fun _ _ => ⟨rfl, e9, (by decide : 1 + 0 ≤ _), (by decide : 4 + 0 ≤ _)⟩)
  dsimp only [Pt.U, Pt.locs, Pt.cells, Pt.slots] at X10 l10 y10 z10 st10 hQ10
  subst l10 y10 z10
  obtain ⟨rfl, N10q, ZA, K10, AE, A_firstColumn, A_lastColumn, A_firstRow, A_lastRow⟩ := hQ10
  have N10 := Fr.app N8 N10q
  refine go (B := T10.setTop (mkF m 67 #[.val (.long q1), .second, .val (.long q2), .second, .val (.long q3), .second, .val (.long q4), .second, .val (.int (fLo q1)), .val (.int (fHi q1)), .val (.int (fLo q2)), .val (.int (fHi q2)), .val (.int (fLo q3)), .val (.int (fHi q3)), .val (.int (fLo q4)), .val (.int (fHi q4)), .unset, .unset, .unset, .unset, .unset, .unset, .unset] [(.ref b9)])) (fun _ k => st10.trans k) ?_
  refine go (B := T10.setTop (mkF m 69 #[.val (.long q1), .second, .val (.long q2), .second, .val (.long q3), .second, .val (.long q4), .second, .val (.int (fLo q1)), .val (.int (fHi q1)), .val (.int (fLo q2)), .val (.int (fHi q2)), .val (.int (fLo q3)), .val (.int (fHi q3)), .val (.int (fLo q4)), .val (.int (fHi q4)), .val (.ref b9), .unset, .unset, .unset, .unset, .unset, .unset] [])) (fun _ k => XS.astore X10.here hx rfl (hb hby at_67) rfl rfl (l' := #[.val (.long q1), .second, .val (.long q2), .second, .val (.long q3), .second, .val (.long q4), .second, .val (.int (fLo q1)), .val (.int (fHi q1)), .val (.int (fLo q2)), .val (.int (fHi q2)), .val (.int (fLo q3)), .val (.int (fHi q3)), .val (.int (fLo q4)), .val (.int (fHi q4)), .val (.ref b9), .unset, .unset, .unset, .unset, .unset, .unset]) rfl k) ?_
  obtain ⟨T11, h11, X11, e11, E11, A11, D11, -, st11⟩ := newO X10 hx hZ hown (hw _ (List.mem_of_getElem? (i := 21) rfl)) (hw _ (List.mem_of_getElem? (i := 22) rfl)) (hw _ (List.mem_of_getElem? (i := 23) rfl)) rfl (g := (mkF m 69 #[.val (.long q1), .second, .val (.long q2), .second, .val (.long q3), .second, .val (.long q4), .second, .val (.int (fLo q1)), .val (.int (fHi q1)), .val (.int (fLo q2)), .val (.int (fHi q2)), .val (.int (fLo q3)), .val (.int (fHi q3)), .val (.int (fLo q4)), .val (.int (fHi q4)), .val (.ref b9), .unset, .unset, .unset, .unset, .unset, .unset] [])) rfl (hb hby at_69) (by decide) (by decide)
  obtain ⟨b11, g11⟩ : ∃ z, z = Array.size (T10.heap) := ⟨_, rfl⟩
  rw [← g11] at A11 D11 st11
  have ne_b9_b11 : b9 ≠ b11 := Nat.ne_of_lt (Nat.lt_of_lt_of_le AE.lt (Nat.le_of_eq g11.symm))
  replace AE := AE.ext E11
  replace A_firstColumn := A_firstColumn.ext E11
  replace A_lastColumn := A_lastColumn.ext E11
  replace A_firstRow := A_firstRow.ext E11
  replace A_lastRow := A_lastRow.ext E11
  have g_b11 : n0 ≤ b11 := Nat.le_trans ZA (Nat.le_of_eq g11.symm)
  have Z11 : n0 ≤ h11.size := Nat.le_trans ZA E11.1
  have F_firstColumn_b11 : Fld Z h11 b11 "com/example/eel_river/eelriver/space/CellRange" "firstColumn" "I" (.int (0 : Int32)) := D11 (Or.inr (hw _ (List.mem_of_getElem? (i := 36) rfl))) (ty := .int) (by decide)
  have F_lastColumn_b11 : Fld Z h11 b11 "com/example/eel_river/eelriver/space/CellRange" "lastColumn" "I" (.int (0 : Int32)) := D11 (Or.inr (hw _ (List.mem_of_getElem? (i := 38) rfl))) (ty := .int) (by decide)
  have F_firstRow_b11 : Fld Z h11 b11 "com/example/eel_river/eelriver/space/CellRange" "firstRow" "I" (.int (0 : Int32)) := D11 (Or.inr (hw _ (List.mem_of_getElem? (i := 40) rfl))) (ty := .int) (by decide)
  have F_lastRow_b11 : Fld Z h11 b11 "com/example/eel_river/eelriver/space/CellRange" "lastRow" "I" (.int (0 : Int32)) := D11 (Or.inr (hw _ (List.mem_of_getElem? (i := 42) rfl))) (ty := .int) (by decide)
  refine go (B := T11.setTop (mkF m 72 #[.val (.long q1), .second, .val (.long q2), .second, .val (.long q3), .second, .val (.long q4), .second, .val (.int (fLo q1)), .val (.int (fHi q1)), .val (.int (fLo q2)), .val (.int (fHi q2)), .val (.int (fLo q3)), .val (.int (fHi q3)), .val (.int (fLo q4)), .val (.int (fHi q4)), .val (.ref b9), .unset, .unset, .unset, .unset, .unset, .unset] [(.ref b11)])) (fun _ k => st11 _ k) ?_
  refine go (B := T11.setTop (mkF m 73 #[.val (.long q1), .second, .val (.long q2), .second, .val (.long q3), .second, .val (.long q4), .second, .val (.int (fLo q1)), .val (.int (fHi q1)), .val (.int (fLo q2)), .val (.int (fHi q2)), .val (.int (fLo q3)), .val (.int (fHi q3)), .val (.int (fLo q4)), .val (.int (fHi q4)), .val (.ref b9), .unset, .unset, .unset, .unset, .unset, .unset] [(.ref b11), (.ref b11)])) (fun _ k => XS.dup X11.here hx rfl (hb hby at_72) rfl rfl k) ?_
  refine go (B := T11.setTop (mkF m 75 #[.val (.long q1), .second, .val (.long q2), .second, .val (.long q3), .second, .val (.long q4), .second, .val (.int (fLo q1)), .val (.int (fHi q1)), .val (.int (fLo q2)), .val (.int (fHi q2)), .val (.int (fLo q3)), .val (.int (fHi q3)), .val (.int (fLo q4)), .val (.int (fHi q4)), .val (.ref b9), .unset, .unset, .unset, .unset, .unset, .unset] [(.int (fLo q3)), (.ref b11), (.ref b11)])) (fun _ k => XS.iload X11.here hx rfl (hb hby at_73) rfl k) ?_
  refine go (B := T11.setTop (mkF m 77 #[.val (.long q1), .second, .val (.long q2), .second, .val (.long q3), .second, .val (.long q4), .second, .val (.int (fLo q1)), .val (.int (fHi q1)), .val (.int (fLo q2)), .val (.int (fHi q2)), .val (.int (fLo q3)), .val (.int (fHi q3)), .val (.int (fLo q4)), .val (.int (fHi q4)), .val (.ref b9), .unset, .unset, .unset, .unset, .unset, .unset] [(.int (fHi q3)), (.int (fLo q3)), (.ref b11), (.ref b11)])) (fun _ k => XS.iload X11.here hx rfl (hb hby at_75) rfl k) ?_
  refine go (B := T11.setTop (mkF m 79 #[.val (.long q1), .second, .val (.long q2), .second, .val (.long q3), .second, .val (.long q4), .second, .val (.int (fLo q1)), .val (.int (fHi q1)), .val (.int (fLo q2)), .val (.int (fHi q2)), .val (.int (fLo q3)), .val (.int (fHi q3)), .val (.int (fLo q4)), .val (.int (fHi q4)), .val (.ref b9), .unset, .unset, .unset, .unset, .unset, .unset] [(.int (fLo q4)), (.int (fHi q3)), (.int (fLo q3)), (.ref b11), (.ref b11)])) (fun _ k => XS.iload X11.here hx rfl (hb hby at_77) rfl k) ?_
  refine go (B := T11.setTop (mkF m 81 #[.val (.long q1), .second, .val (.long q2), .second, .val (.long q3), .second, .val (.long q4), .second, .val (.int (fLo q1)), .val (.int (fHi q1)), .val (.int (fLo q2)), .val (.int (fHi q2)), .val (.int (fLo q3)), .val (.int (fHi q3)), .val (.int (fLo q4)), .val (.int (fHi q4)), .val (.ref b9), .unset, .unset, .unset, .unset, .unset, .unset] [(.int (fHi q4)), (.int (fLo q4)), (.int (fHi q3)), (.int (fLo q3)), (.ref b11), (.ref b11)])) (fun _ k => XS.iload X11.here hx rfl (hb hby at_79) rfl k) ?_
  obtain ⟨_, _, ⟨T12, L12, k12, n12⟩, -, X12, ⟨Lc12, hQ12, l12, y12, z12⟩, st12⟩ := X11.specialBack hx (y := (⟨"com/example/eel_river/eelriver/space/CellRange", "<init>", "(IIII)V"⟩ : MethodName)) rfl hown (mvT hZ (hw _ (List.mem_of_getElem? (i := 24) rfl))) (mvT hZ (hw _ (List.mem_of_getElem? (i := 25) rfl))) (mvT hZ (hw _ (List.mem_of_getElem? (i := 26) rfl))) (by decide) (backOf (W := 1) (rm7 l Z a0 hw [] b11 (fLo q3) (fHi q3) (fLo q4) (fHi q4) (.int (0 : Int32)) (.int (0 : Int32)) (.int (0 : Int32)) (.int (0 : Int32)) h11 n0 Z11 A11 F_firstColumn_b11 F_lastColumn_b11 F_firstRow_b11 F_lastRow_b11 g_b11 (lo_hi q3).1 (lo_hi q3).2 (lo_hi q4).1 (lo_hi q4).2) hZ (hw _ (List.mem_of_getElem? (i := 26) rfl)) (hw _ (List.mem_of_getElem? (i := 23) rfl)) (by decide) (by decide)) (g := (mkF m 81 #[.val (.long q1), .second, .val (.long q2), .second, .val (.long q3), .second, .val (.long q4), .second, .val (.int (fLo q1)), .val (.int (fHi q1)), .val (.int (fLo q2)), .val (.int (fHi q2)), .val (.int (fLo q3)), .val (.int (fHi q3)), .val (.int (fLo q4)), .val (.int (fHi q4)), .val (.ref b9), .unset, .unset, .unset, .unset, .unset, .unset] [(.int (fHi q4)), (.int (fLo q4)), (.int (fHi q3)), (.int (fLo q3)), (.ref b11), (.ref b11)])) rfl (by rw [hml]; rfl) (Steps.refl _) (a := b11) (argsL := [(.int (fLo q3)), (.int (fHi q3)), (.int (fLo q4)), (.int (fHi q4))]) (rest := [(.ref b11)]) (lenOf pd__IIII_V rfl) rfl (by show 2 * 0 + _ ≤ _; exact Nat.le_of_eq rfl) (hb hby at_81) (fun _ _ => ⟨rfl, e11, (by decide : 2 + 0 ≤ _), (by decide : 8 + 0 ≤ _)⟩)
  dsimp only [Pt.U, Pt.locs, Pt.cells, Pt.slots] at X12 l12 y12 z12 st12 hQ12
  subst l12 y12 z12
  obtain ⟨rfl, N12q, ZB, K12, BE, B_firstColumn, B_lastColumn, B_firstRow, B_lastRow⟩ := hQ12
  have N12 := Fr.app N10 N12q
  replace AE := AE.keep K12
  replace A_firstColumn := A_firstColumn.keep K12 (ninS ne_b9_b11 nin0)
  replace A_lastColumn := A_lastColumn.keep K12 (ninS ne_b9_b11 nin0)
  replace A_firstRow := A_firstRow.keep K12 (ninS ne_b9_b11 nin0)
  replace A_lastRow := A_lastRow.keep K12 (ninS ne_b9_b11 nin0)
  refine go (B := T12.setTop (mkF m 84 #[.val (.long q1), .second, .val (.long q2), .second, .val (.long q3), .second, .val (.long q4), .second, .val (.int (fLo q1)), .val (.int (fHi q1)), .val (.int (fLo q2)), .val (.int (fHi q2)), .val (.int (fLo q3)), .val (.int (fHi q3)), .val (.int (fLo q4)), .val (.int (fHi q4)), .val (.ref b9), .unset, .unset, .unset, .unset, .unset, .unset] [(.ref b11)])) (fun _ k => st12.trans k) ?_
  refine go (B := T12.setTop (mkF m 86 #[.val (.long q1), .second, .val (.long q2), .second, .val (.long q3), .second, .val (.long q4), .second, .val (.int (fLo q1)), .val (.int (fHi q1)), .val (.int (fLo q2)), .val (.int (fHi q2)), .val (.int (fLo q3)), .val (.int (fHi q3)), .val (.int (fLo q4)), .val (.int (fHi q4)), .val (.ref b9), .val (.ref b11), .unset, .unset, .unset, .unset, .unset] [])) (fun _ k => XS.astore X12.here hx rfl (hb hby at_84) rfl rfl (l' := #[.val (.long q1), .second, .val (.long q2), .second, .val (.long q3), .second, .val (.long q4), .second, .val (.int (fLo q1)), .val (.int (fHi q1)), .val (.int (fLo q2)), .val (.int (fHi q2)), .val (.int (fLo q3)), .val (.int (fHi q3)), .val (.int (fLo q4)), .val (.int (fHi q4)), .val (.ref b9), .val (.ref b11), .unset, .unset, .unset, .unset, .unset]) rfl k) ?_
  refine go (B := T12.setTop (mkF m 88 #[.val (.long q1), .second, .val (.long q2), .second, .val (.long q3), .second, .val (.long q4), .second, .val (.int (fLo q1)), .val (.int (fHi q1)), .val (.int (fLo q2)), .val (.int (fHi q2)), .val (.int (fLo q3)), .val (.int (fHi q3)), .val (.int (fLo q4)), .val (.int (fHi q4)), .val (.ref b9), .val (.ref b11), .unset, .unset, .unset, .unset, .unset] [(.ref b9)])) (fun _ k => XS.aload X12.here hx rfl (hb hby at_86) rfl rfl k) ?_
  refine go (B := T12.setTop (mkF m 90 #[.val (.long q1), .second, .val (.long q2), .second, .val (.long q3), .second, .val (.long q4), .second, .val (.int (fLo q1)), .val (.int (fHi q1)), .val (.int (fLo q2)), .val (.int (fHi q2)), .val (.int (fLo q3)), .val (.int (fHi q3)), .val (.int (fLo q4)), .val (.int (fHi q4)), .val (.ref b9), .val (.ref b11), .unset, .unset, .unset, .unset, .unset] [(.ref b11), (.ref b9)])) (fun _ k => XS.aload X12.here hx rfl (hb hby at_88) rfl rfl k) ?_
  obtain ⟨cq13, kq13, q13a, q13b, q13c⟩ := isOf hZ rfl AE
  obtain ⟨_, _, ⟨T13, L13, k13, n13⟩, -, X13, ⟨Lc13, hQ13, l13, y13, z13⟩, st13⟩ := X12.virtualBack hx (y := (⟨"com/example/eel_river/eelriver/space/CellRange", "overlaps", "(Lcom/example/eel_river/eelriver/space/CellRange;)Z"⟩ : MethodName)) (z := (⟨"com/example/eel_river/eelriver/space/CellRange", "overlaps", "(Lcom/example/eel_river/eelriver/space/CellRange;)Z"⟩ : MethodName)) hown (mvT hZ (hw _ (List.mem_of_getElem? (i := 43) rfl))) (mvT hZ (hw _ (List.mem_of_getElem? (i := 44) rfl))) (notFace_of_selects (args := #[]) (mvT hZ (hw _ (List.mem_of_getElem? (i := 46) rfl)))) (mvT hZ (hw _ (List.mem_of_getElem? (i := 46) rfl))) (mvT hZ (hw _ (List.mem_of_getElem? (i := 45) rfl))) (by decide) (backOf (W := 0) (rm10 l Z a0 hw [] b9 b11 (fLo q1) (fHi q1) (fLo q2) (fHi q2) (fLo q3) (fHi q3) (fLo q4) (fHi q4) T12.heap n0 ZB A_firstColumn A_lastColumn A_firstRow A_lastRow B_firstColumn B_lastColumn B_firstRow B_lastRow) hZ (hw _ (List.mem_of_getElem? (i := 47) rfl)) (hw _ (List.mem_of_getElem? (i := 23) rfl)) (by decide) (by decide)) q13a q13c (g := (mkF m 90 #[.val (.long q1), .second, .val (.long q2), .second, .val (.long q3), .second, .val (.long q4), .second, .val (.int (fLo q1)), .val (.int (fHi q1)), .val (.int (fLo q2)), .val (.int (fHi q2)), .val (.int (fLo q3)), .val (.int (fHi q3)), .val (.int (fLo q4)), .val (.int (fHi q4)), .val (.ref b9), .val (.ref b11), .unset, .unset, .unset, .unset, .unset] [(.ref b11), (.ref b9)])) rfl (by rw [hml]; rfl) (Steps.refl _) (argsL := [(.ref b11)]) (rest := []) (lenOf pd__Lcom_example_eel_river_eelriver_space_CellRange__Z rfl) rfl (by show 2 * 0 + _ ≤ _; exact Nat.le_of_eq rfl) (hb hby at_90) (fun _ _ => ⟨rfl, rfl, (by decide : 2 + 0 ≤ _), (by decide : 8 + 0 ≤ _)⟩)
  dsimp only [Pt.U, Pt.locs, Pt.cells, Pt.slots] at X13 l13 y13 z13 st13 hQ13
  subst l13 y13 z13
  obtain ⟨rfl, N13q, e13⟩ := hQ13
  have N13 := Fr.app N12 N13q
  refine go (B := T13.setTop (mkF m 93 #[.val (.long q1), .second, .val (.long q2), .second, .val (.long q3), .second, .val (.long q4), .second, .val (.int (fLo q1)), .val (.int (fHi q1)), .val (.int (fLo q2)), .val (.int (fHi q2)), .val (.int (fLo q3)), .val (.int (fHi q3)), .val (.int (fLo q4)), .val (.int (fHi q4)), .val (.ref b9), .val (.ref b11), .unset, .unset, .unset, .unset, .unset] [(.int (fOv (fLo q1) (fHi q1) (fLo q2) (fHi q2) (fLo q3) (fHi q3) (fLo q4) (fHi q4)))])) (fun _ k => st13.trans k) ?_
  refine go (B := T13.setTop (mkF m 95 #[.val (.long q1), .second, .val (.long q2), .second, .val (.long q3), .second, .val (.long q4), .second, .val (.int (fLo q1)), .val (.int (fHi q1)), .val (.int (fLo q2)), .val (.int (fHi q2)), .val (.int (fLo q3)), .val (.int (fHi q3)), .val (.int (fLo q4)), .val (.int (fHi q4)), .val (.ref b9), .val (.ref b11), .val (.int (fOv (fLo q1) (fHi q1) (fLo q2) (fHi q2) (fLo q3) (fHi q3) (fLo q4) (fHi q4))), .unset, .unset, .unset, .unset] [])) (fun _ k => XS.istore X13.here hx rfl (hb hby at_93) rfl (l' := #[.val (.long q1), .second, .val (.long q2), .second, .val (.long q3), .second, .val (.long q4), .second, .val (.int (fLo q1)), .val (.int (fHi q1)), .val (.int (fLo q2)), .val (.int (fHi q2)), .val (.int (fLo q3)), .val (.int (fHi q3)), .val (.int (fLo q4)), .val (.int (fHi q4)), .val (.ref b9), .val (.ref b11), .val (.int (fOv (fLo q1) (fHi q1) (fLo q2) (fHi q2) (fLo q3) (fHi q3) (fLo q4) (fHi q4))), .unset, .unset, .unset, .unset]) rfl k) ?_
  refine go (B := T13.setTop (mkF m 97 #[.val (.long q1), .second, .val (.long q2), .second, .val (.long q3), .second, .val (.long q4), .second, .val (.int (fLo q1)), .val (.int (fHi q1)), .val (.int (fLo q2)), .val (.int (fHi q2)), .val (.int (fLo q3)), .val (.int (fHi q3)), .val (.int (fLo q4)), .val (.int (fHi q4)), .val (.ref b9), .val (.ref b11), .val (.int (fOv (fLo q1) (fHi q1) (fLo q2) (fHi q2) (fLo q3) (fHi q3) (fLo q4) (fHi q4))), .unset, .unset, .unset, .unset] [(.ref b11)])) (fun _ k => XS.aload X13.here hx rfl (hb hby at_95) rfl rfl k) ?_
  refine go (B := T13.setTop (mkF m 99 #[.val (.long q1), .second, .val (.long q2), .second, .val (.long q3), .second, .val (.long q4), .second, .val (.int (fLo q1)), .val (.int (fHi q1)), .val (.int (fLo q2)), .val (.int (fHi q2)), .val (.int (fLo q3)), .val (.int (fHi q3)), .val (.int (fLo q4)), .val (.int (fHi q4)), .val (.ref b9), .val (.ref b11), .val (.int (fOv (fLo q1) (fHi q1) (fLo q2) (fHi q2) (fLo q3) (fHi q3) (fLo q4) (fHi q4))), .unset, .unset, .unset, .unset] [(.ref b9), (.ref b11)])) (fun _ k => XS.aload X13.here hx rfl (hb hby at_97) rfl rfl k) ?_
  obtain ⟨cq14, kq14, q14a, q14b, q14c⟩ := isOf hZ e13 BE
  obtain ⟨_, _, ⟨T14, L14, k14, n14⟩, -, X14, ⟨Lc14, hQ14, l14, y14, z14⟩, st14⟩ := X13.virtualBack hx (y := (⟨"com/example/eel_river/eelriver/space/CellRange", "overlaps", "(Lcom/example/eel_river/eelriver/space/CellRange;)Z"⟩ : MethodName)) (z := (⟨"com/example/eel_river/eelriver/space/CellRange", "overlaps", "(Lcom/example/eel_river/eelriver/space/CellRange;)Z"⟩ : MethodName)) hown (mvT hZ (hw _ (List.mem_of_getElem? (i := 43) rfl))) (mvT hZ (hw _ (List.mem_of_getElem? (i := 44) rfl))) (notFace_of_selects (args := #[]) (mvT hZ (hw _ (List.mem_of_getElem? (i := 46) rfl)))) (mvT hZ (hw _ (List.mem_of_getElem? (i := 46) rfl))) (mvT hZ (hw _ (List.mem_of_getElem? (i := 45) rfl))) (by decide) (backOf (W := 0) (rm10 l Z a0 hw [] b11 b9 (fLo q3) (fHi q3) (fLo q4) (fHi q4) (fLo q1) (fHi q1) (fLo q2) (fHi q2) T12.heap n0 ZB B_firstColumn B_lastColumn B_firstRow B_lastRow A_firstColumn A_lastColumn A_firstRow A_lastRow) hZ (hw _ (List.mem_of_getElem? (i := 47) rfl)) (hw _ (List.mem_of_getElem? (i := 23) rfl)) (by decide) (by decide)) q14a q14c (g := (mkF m 99 #[.val (.long q1), .second, .val (.long q2), .second, .val (.long q3), .second, .val (.long q4), .second, .val (.int (fLo q1)), .val (.int (fHi q1)), .val (.int (fLo q2)), .val (.int (fHi q2)), .val (.int (fLo q3)), .val (.int (fHi q3)), .val (.int (fLo q4)), .val (.int (fHi q4)), .val (.ref b9), .val (.ref b11), .val (.int (fOv (fLo q1) (fHi q1) (fLo q2) (fHi q2) (fLo q3) (fHi q3) (fLo q4) (fHi q4))), .unset, .unset, .unset, .unset] [(.ref b9), (.ref b11)])) rfl (by rw [hml]; rfl) (Steps.refl _) (argsL := [(.ref b9)]) (rest := []) (lenOf pd__Lcom_example_eel_river_eelriver_space_CellRange__Z rfl) rfl (by show 2 * 0 + _ ≤ _; exact Nat.le_of_eq rfl) (hb hby at_99) (fun _ _ => ⟨rfl, e13, (by decide : 2 + 0 ≤ _), (by decide : 8 + 0 ≤ _)⟩)
  dsimp only [Pt.U, Pt.locs, Pt.cells, Pt.slots] at X14 l14 y14 z14 st14 hQ14
  subst l14 y14 z14
  obtain ⟨rfl, N14q, e14⟩ := hQ14
  have N14 := Fr.app N13 N14q
  refine go (B := T14.setTop (mkF m 102 #[.val (.long q1), .second, .val (.long q2), .second, .val (.long q3), .second, .val (.long q4), .second, .val (.int (fLo q1)), .val (.int (fHi q1)), .val (.int (fLo q2)), .val (.int (fHi q2)), .val (.int (fLo q3)), .val (.int (fHi q3)), .val (.int (fLo q4)), .val (.int (fHi q4)), .val (.ref b9), .val (.ref b11), .val (.int (fOv (fLo q1) (fHi q1) (fLo q2) (fHi q2) (fLo q3) (fHi q3) (fLo q4) (fHi q4))), .unset, .unset, .unset, .unset] [(.int (fOv (fLo q3) (fHi q3) (fLo q4) (fHi q4) (fLo q1) (fHi q1) (fLo q2) (fHi q2)))])) (fun _ k => st14.trans k) ?_
  refine go (B := T14.setTop (mkF m 104 #[.val (.long q1), .second, .val (.long q2), .second, .val (.long q3), .second, .val (.long q4), .second, .val (.int (fLo q1)), .val (.int (fHi q1)), .val (.int (fLo q2)), .val (.int (fHi q2)), .val (.int (fLo q3)), .val (.int (fHi q3)), .val (.int (fLo q4)), .val (.int (fHi q4)), .val (.ref b9), .val (.ref b11), .val (.int (fOv (fLo q1) (fHi q1) (fLo q2) (fHi q2) (fLo q3) (fHi q3) (fLo q4) (fHi q4))), .val (.int (fOv (fLo q3) (fHi q3) (fLo q4) (fHi q4) (fLo q1) (fHi q1) (fLo q2) (fHi q2))), .unset, .unset, .unset] [])) (fun _ k => XS.istore X14.here hx rfl (hb hby at_102) rfl (l' := #[.val (.long q1), .second, .val (.long q2), .second, .val (.long q3), .second, .val (.long q4), .second, .val (.int (fLo q1)), .val (.int (fHi q1)), .val (.int (fLo q2)), .val (.int (fHi q2)), .val (.int (fLo q3)), .val (.int (fHi q3)), .val (.int (fLo q4)), .val (.int (fHi q4)), .val (.ref b9), .val (.ref b11), .val (.int (fOv (fLo q1) (fHi q1) (fLo q2) (fHi q2) (fLo q3) (fHi q3) (fLo q4) (fHi q4))), .val (.int (fOv (fLo q3) (fHi q3) (fLo q4) (fHi q4) (fLo q1) (fHi q1) (fLo q2) (fHi q2))), .unset, .unset, .unset]) rfl k) ?_
  refine go (B := T14.setTop (mkF m 106 #[.val (.long q1), .second, .val (.long q2), .second, .val (.long q3), .second, .val (.long q4), .second, .val (.int (fLo q1)), .val (.int (fHi q1)), .val (.int (fLo q2)), .val (.int (fHi q2)), .val (.int (fLo q3)), .val (.int (fHi q3)), .val (.int (fLo q4)), .val (.int (fHi q4)), .val (.ref b9), .val (.ref b11), .val (.int (fOv (fLo q1) (fHi q1) (fLo q2) (fHi q2) (fLo q3) (fHi q3) (fLo q4) (fHi q4))), .val (.int (fOv (fLo q3) (fHi q3) (fLo q4) (fHi q4) (fLo q1) (fHi q1) (fLo q2) (fHi q2))), .unset, .unset, .unset] [(.int (fLo q1))])) (fun _ k => XS.iload X14.here hx rfl (hb hby at_104) rfl k) ?_
  refine go (B := T14.setTop (mkF m 108 #[.val (.long q1), .second, .val (.long q2), .second, .val (.long q3), .second, .val (.long q4), .second, .val (.int (fLo q1)), .val (.int (fHi q1)), .val (.int (fLo q2)), .val (.int (fHi q2)), .val (.int (fLo q3)), .val (.int (fHi q3)), .val (.int (fLo q4)), .val (.int (fHi q4)), .val (.ref b9), .val (.ref b11), .val (.int (fOv (fLo q1) (fHi q1) (fLo q2) (fHi q2) (fLo q3) (fHi q3) (fLo q4) (fHi q4))), .val (.int (fOv (fLo q3) (fHi q3) (fLo q4) (fHi q4) (fLo q1) (fHi q1) (fLo q2) (fHi q2))), .unset, .unset, .unset] [(.int (fLo q3)), (.int (fLo q1))])) (fun _ k => XS.iload X14.here hx rfl (hb hby at_106) rfl k) ?_
  obtain ⟨_, _, ⟨T15, L15, k15, n15⟩, -, X15, ⟨Lc15, hQ15, l15, y15, z15⟩, st15⟩ := Jvm.LawKit.callS X14 hx (y := (⟨"java/lang/Math", "max", "(II)I"⟩ : MethodName)) hown (mvT hZ (hw _ (List.mem_of_getElem? (i := 18) rfl))) (mvT hZ (hw _ (List.mem_of_getElem? (i := 19) rfl))) (mvT hZ (hw _ (List.mem_of_getElem? (i := 13) rfl))) (mvT hZ (hw _ (List.mem_of_getElem? (i := 20) rfl))) (by decide) (backOf (W := 0) (rm6 l Z a0 hw [] (fLo q1) (fLo q3) T12.heap n0 ZB) hZ (hw _ (List.mem_of_getElem? (i := 20) rfl)) (hw _ (List.mem_of_getElem? (i := 13) rfl)) (by decide) (by decide)) (g := (mkF m 108 #[.val (.long q1), .second, .val (.long q2), .second, .val (.long q3), .second, .val (.long q4), .second, .val (.int (fLo q1)), .val (.int (fHi q1)), .val (.int (fLo q2)), .val (.int (fHi q2)), .val (.int (fLo q3)), .val (.int (fHi q3)), .val (.int (fLo q4)), .val (.int (fHi q4)), .val (.ref b9), .val (.ref b11), .val (.int (fOv (fLo q1) (fHi q1) (fLo q2) (fHi q2) (fLo q3) (fHi q3) (fLo q4) (fHi q4))), .val (.int (fOv (fLo q3) (fHi q3) (fLo q4) (fHi q4) (fLo q1) (fHi q1) (fLo q2) (fHi q2))), .unset, .unset, .unset] [(.int (fLo q3)), (.int (fLo q1))])) rfl (by rw [hml]; rfl) (argsL := [(.int (fLo q1)), (.int (fLo q3))]) (rest := []) (lenOf pd__II_I rfl) rfl (by show 2 * 0 + _ ≤ _; exact Nat.le_of_eq rfl) (hb hby at_108) (fun _ _ => ⟨rfl, e14, (by decide : 2 + 0 ≤ _), (by decide : 8 + 0 ≤ _)⟩)
  dsimp only [Pt.U, Pt.locs, Pt.cells, Pt.slots] at X15 l15 y15 z15 st15 hQ15
  subst l15 y15 z15
  obtain ⟨rfl, N15q, e15⟩ := hQ15
  have N15 := Fr.app N14 N15q
  refine go (B := T15.setTop (mkF m 111 #[.val (.long q1), .second, .val (.long q2), .second, .val (.long q3), .second, .val (.long q4), .second, .val (.int (fLo q1)), .val (.int (fHi q1)), .val (.int (fLo q2)), .val (.int (fHi q2)), .val (.int (fLo q3)), .val (.int (fHi q3)), .val (.int (fLo q4)), .val (.int (fHi q4)), .val (.ref b9), .val (.ref b11), .val (.int (fOv (fLo q1) (fHi q1) (fLo q2) (fHi q2) (fLo q3) (fHi q3) (fLo q4) (fHi q4))), .val (.int (fOv (fLo q3) (fHi q3) (fLo q4) (fHi q4) (fLo q1) (fHi q1) (fLo q2) (fHi q2))), .unset, .unset, .unset] [(.int (fMx (fLo q1) (fLo q3)))])) (fun _ k => st15 _ k) ?_
  refine go (B := T15.setTop (mkF m 113 #[.val (.long q1), .second, .val (.long q2), .second, .val (.long q3), .second, .val (.long q4), .second, .val (.int (fLo q1)), .val (.int (fHi q1)), .val (.int (fLo q2)), .val (.int (fHi q2)), .val (.int (fLo q3)), .val (.int (fHi q3)), .val (.int (fLo q4)), .val (.int (fHi q4)), .val (.ref b9), .val (.ref b11), .val (.int (fOv (fLo q1) (fHi q1) (fLo q2) (fHi q2) (fLo q3) (fHi q3) (fLo q4) (fHi q4))), .val (.int (fOv (fLo q3) (fHi q3) (fLo q4) (fHi q4) (fLo q1) (fHi q1) (fLo q2) (fHi q2))), .val (.int (fMx (fLo q1) (fLo q3))), .unset, .unset] [])) (fun _ k => XS.istore X15.here hx rfl (hb hby at_111) rfl (l' := #[.val (.long q1), .second, .val (.long q2), .second, .val (.long q3), .second, .val (.long q4), .second, .val (.int (fLo q1)), .val (.int (fHi q1)), .val (.int (fLo q2)), .val (.int (fHi q2)), .val (.int (fLo q3)), .val (.int (fHi q3)), .val (.int (fLo q4)), .val (.int (fHi q4)), .val (.ref b9), .val (.ref b11), .val (.int (fOv (fLo q1) (fHi q1) (fLo q2) (fHi q2) (fLo q3) (fHi q3) (fLo q4) (fHi q4))), .val (.int (fOv (fLo q3) (fHi q3) (fLo q4) (fHi q4) (fLo q1) (fHi q1) (fLo q2) (fHi q2))), .val (.int (fMx (fLo q1) (fLo q3))), .unset, .unset]) rfl k) ?_
  refine go (B := T15.setTop (mkF m 115 #[.val (.long q1), .second, .val (.long q2), .second, .val (.long q3), .second, .val (.long q4), .second, .val (.int (fLo q1)), .val (.int (fHi q1)), .val (.int (fLo q2)), .val (.int (fHi q2)), .val (.int (fLo q3)), .val (.int (fHi q3)), .val (.int (fLo q4)), .val (.int (fHi q4)), .val (.ref b9), .val (.ref b11), .val (.int (fOv (fLo q1) (fHi q1) (fLo q2) (fHi q2) (fLo q3) (fHi q3) (fLo q4) (fHi q4))), .val (.int (fOv (fLo q3) (fHi q3) (fLo q4) (fHi q4) (fLo q1) (fHi q1) (fLo q2) (fHi q2))), .val (.int (fMx (fLo q1) (fLo q3))), .unset, .unset] [(.int (fLo q2))])) (fun _ k => XS.iload X15.here hx rfl (hb hby at_113) rfl k) ?_
  refine go (B := T15.setTop (mkF m 117 #[.val (.long q1), .second, .val (.long q2), .second, .val (.long q3), .second, .val (.long q4), .second, .val (.int (fLo q1)), .val (.int (fHi q1)), .val (.int (fLo q2)), .val (.int (fHi q2)), .val (.int (fLo q3)), .val (.int (fHi q3)), .val (.int (fLo q4)), .val (.int (fHi q4)), .val (.ref b9), .val (.ref b11), .val (.int (fOv (fLo q1) (fHi q1) (fLo q2) (fHi q2) (fLo q3) (fHi q3) (fLo q4) (fHi q4))), .val (.int (fOv (fLo q3) (fHi q3) (fLo q4) (fHi q4) (fLo q1) (fHi q1) (fLo q2) (fHi q2))), .val (.int (fMx (fLo q1) (fLo q3))), .unset, .unset] [(.int (fLo q4)), (.int (fLo q2))])) (fun _ k => XS.iload X15.here hx rfl (hb hby at_115) rfl k) ?_
  obtain ⟨_, _, ⟨T16, L16, k16, n16⟩, -, X16, ⟨Lc16, hQ16, l16, y16, z16⟩, st16⟩ := Jvm.LawKit.callS X15 hx (y := (⟨"java/lang/Math", "max", "(II)I"⟩ : MethodName)) hown (mvT hZ (hw _ (List.mem_of_getElem? (i := 18) rfl))) (mvT hZ (hw _ (List.mem_of_getElem? (i := 19) rfl))) (mvT hZ (hw _ (List.mem_of_getElem? (i := 13) rfl))) (mvT hZ (hw _ (List.mem_of_getElem? (i := 20) rfl))) (by decide) (backOf (W := 0) (rm6 l Z a0 hw [] (fLo q2) (fLo q4) T12.heap n0 ZB) hZ (hw _ (List.mem_of_getElem? (i := 20) rfl)) (hw _ (List.mem_of_getElem? (i := 13) rfl)) (by decide) (by decide)) (g := (mkF m 117 #[.val (.long q1), .second, .val (.long q2), .second, .val (.long q3), .second, .val (.long q4), .second, .val (.int (fLo q1)), .val (.int (fHi q1)), .val (.int (fLo q2)), .val (.int (fHi q2)), .val (.int (fLo q3)), .val (.int (fHi q3)), .val (.int (fLo q4)), .val (.int (fHi q4)), .val (.ref b9), .val (.ref b11), .val (.int (fOv (fLo q1) (fHi q1) (fLo q2) (fHi q2) (fLo q3) (fHi q3) (fLo q4) (fHi q4))), .val (.int (fOv (fLo q3) (fHi q3) (fLo q4) (fHi q4) (fLo q1) (fHi q1) (fLo q2) (fHi q2))), .val (.int (fMx (fLo q1) (fLo q3))), .unset, .unset] [(.int (fLo q4)), (.int (fLo q2))])) rfl (by rw [hml]; rfl) (argsL := [(.int (fLo q2)), (.int (fLo q4))]) (rest := []) (lenOf pd__II_I rfl) rfl (by show 2 * 0 + _ ≤ _; exact Nat.le_of_eq rfl) (hb hby at_117) (fun _ _ => ⟨rfl, e15, (by decide : 2 + 0 ≤ _), (by decide : 8 + 0 ≤ _)⟩)
  dsimp only [Pt.U, Pt.locs, Pt.cells, Pt.slots] at X16 l16 y16 z16 st16 hQ16
  subst l16 y16 z16
  obtain ⟨rfl, N16q, e16⟩ := hQ16
  have N16 := Fr.app N15 N16q
  refine go (B := T16.setTop (mkF m 120 #[.val (.long q1), .second, .val (.long q2), .second, .val (.long q3), .second, .val (.long q4), .second, .val (.int (fLo q1)), .val (.int (fHi q1)), .val (.int (fLo q2)), .val (.int (fHi q2)), .val (.int (fLo q3)), .val (.int (fHi q3)), .val (.int (fLo q4)), .val (.int (fHi q4)), .val (.ref b9), .val (.ref b11), .val (.int (fOv (fLo q1) (fHi q1) (fLo q2) (fHi q2) (fLo q3) (fHi q3) (fLo q4) (fHi q4))), .val (.int (fOv (fLo q3) (fHi q3) (fLo q4) (fHi q4) (fLo q1) (fHi q1) (fLo q2) (fHi q2))), .val (.int (fMx (fLo q1) (fLo q3))), .unset, .unset] [(.int (fMx (fLo q2) (fLo q4)))])) (fun _ k => st16 _ k) ?_
  refine go (B := T16.setTop (mkF m 122 #[.val (.long q1), .second, .val (.long q2), .second, .val (.long q3), .second, .val (.long q4), .second, .val (.int (fLo q1)), .val (.int (fHi q1)), .val (.int (fLo q2)), .val (.int (fHi q2)), .val (.int (fLo q3)), .val (.int (fHi q3)), .val (.int (fLo q4)), .val (.int (fHi q4)), .val (.ref b9), .val (.ref b11), .val (.int (fOv (fLo q1) (fHi q1) (fLo q2) (fHi q2) (fLo q3) (fHi q3) (fLo q4) (fHi q4))), .val (.int (fOv (fLo q3) (fHi q3) (fLo q4) (fHi q4) (fLo q1) (fHi q1) (fLo q2) (fHi q2))), .val (.int (fMx (fLo q1) (fLo q3))), .val (.int (fMx (fLo q2) (fLo q4))), .unset] [])) (fun _ k => XS.istore X16.here hx rfl (hb hby at_120) rfl (l' := #[.val (.long q1), .second, .val (.long q2), .second, .val (.long q3), .second, .val (.long q4), .second, .val (.int (fLo q1)), .val (.int (fHi q1)), .val (.int (fLo q2)), .val (.int (fHi q2)), .val (.int (fLo q3)), .val (.int (fHi q3)), .val (.int (fLo q4)), .val (.int (fHi q4)), .val (.ref b9), .val (.ref b11), .val (.int (fOv (fLo q1) (fHi q1) (fLo q2) (fHi q2) (fLo q3) (fHi q3) (fLo q4) (fHi q4))), .val (.int (fOv (fLo q3) (fHi q3) (fLo q4) (fHi q4) (fLo q1) (fHi q1) (fLo q2) (fHi q2))), .val (.int (fMx (fLo q1) (fLo q3))), .val (.int (fMx (fLo q2) (fLo q4))), .unset]) rfl k) ?_
  refine go (B := T16.setTop (mkF m 124 #[.val (.long q1), .second, .val (.long q2), .second, .val (.long q3), .second, .val (.long q4), .second, .val (.int (fLo q1)), .val (.int (fHi q1)), .val (.int (fLo q2)), .val (.int (fHi q2)), .val (.int (fLo q3)), .val (.int (fHi q3)), .val (.int (fLo q4)), .val (.int (fHi q4)), .val (.ref b9), .val (.ref b11), .val (.int (fOv (fLo q1) (fHi q1) (fLo q2) (fHi q2) (fLo q3) (fHi q3) (fLo q4) (fHi q4))), .val (.int (fOv (fLo q3) (fHi q3) (fLo q4) (fHi q4) (fLo q1) (fHi q1) (fLo q2) (fHi q2))), .val (.int (fMx (fLo q1) (fLo q3))), .val (.int (fMx (fLo q2) (fLo q4))), .unset] [(.int (fMx (fLo q1) (fLo q3)))])) (fun _ k => XS.iload X16.here hx rfl (hb hby at_122) rfl k) ?_
  refine go (B := T16.setTop (mkF m 126 #[.val (.long q1), .second, .val (.long q2), .second, .val (.long q3), .second, .val (.long q4), .second, .val (.int (fLo q1)), .val (.int (fHi q1)), .val (.int (fLo q2)), .val (.int (fHi q2)), .val (.int (fLo q3)), .val (.int (fHi q3)), .val (.int (fLo q4)), .val (.int (fHi q4)), .val (.ref b9), .val (.ref b11), .val (.int (fOv (fLo q1) (fHi q1) (fLo q2) (fHi q2) (fLo q3) (fHi q3) (fLo q4) (fHi q4))), .val (.int (fOv (fLo q3) (fHi q3) (fLo q4) (fHi q4) (fLo q1) (fHi q1) (fLo q2) (fHi q2))), .val (.int (fMx (fLo q1) (fLo q3))), .val (.int (fMx (fLo q2) (fLo q4))), .unset] [(.int (fLo q1)), (.int (fMx (fLo q1) (fLo q3)))])) (fun _ k => XS.iload X16.here hx rfl (hb hby at_124) rfl k) ?_
  refine go (B := T16.setTop (mkF m 128 #[.val (.long q1), .second, .val (.long q2), .second, .val (.long q3), .second, .val (.long q4), .second, .val (.int (fLo q1)), .val (.int (fHi q1)), .val (.int (fLo q2)), .val (.int (fHi q2)), .val (.int (fLo q3)), .val (.int (fHi q3)), .val (.int (fLo q4)), .val (.int (fHi q4)), .val (.ref b9), .val (.ref b11), .val (.int (fOv (fLo q1) (fHi q1) (fLo q2) (fHi q2) (fLo q3) (fHi q3) (fLo q4) (fHi q4))), .val (.int (fOv (fLo q3) (fHi q3) (fLo q4) (fHi q4) (fLo q1) (fHi q1) (fLo q2) (fHi q2))), .val (.int (fMx (fLo q1) (fLo q3))), .val (.int (fMx (fLo q2) (fLo q4))), .unset] [(.int (fHi q1)), (.int (fLo q1)), (.int (fMx (fLo q1) (fLo q3)))])) (fun _ k => XS.iload X16.here hx rfl (hb hby at_126) rfl k) ?_
  obtain ⟨_, _, ⟨T17, L17, k17, n17⟩, -, X17, ⟨Lc17, hQ17, l17, y17, z17⟩, st17⟩ := Jvm.LawKit.callS X16 hx (y := (⟨"com/example/eel_river/eelriver/space/CellRangeOverlapsPinLaw", "in", "(III)Z"⟩ : MethodName)) hown (mvT hZ (hw _ (List.mem_of_getElem? (i := 48) rfl))) (mvT hZ (hw _ (List.mem_of_getElem? (i := 49) rfl))) (mvT hZ (hw _ (List.mem_of_getElem? (i := 2) rfl))) (mvT hZ (hw _ (List.mem_of_getElem? (i := 50) rfl))) (by decide) (backOf (W := 0) (rm11 l Z a0 hw [] (fMx (fLo q1) (fLo q3)) (fLo q1) (fHi q1) T12.heap n0 ZB) hZ (hw _ (List.mem_of_getElem? (i := 50) rfl)) (hw _ (List.mem_of_getElem? (i := 2) rfl)) (by decide) (by decide)) (g := (mkF m 128 #[.val (.long q1), .second, .val (.long q2), .second, .val (.long q3), .second, .val (.long q4), .second, .val (.int (fLo q1)), .val (.int (fHi q1)), .val (.int (fLo q2)), .val (.int (fHi q2)), .val (.int (fLo q3)), .val (.int (fHi q3)), .val (.int (fLo q4)), .val (.int (fHi q4)), .val (.ref b9), .val (.ref b11), .val (.int (fOv (fLo q1) (fHi q1) (fLo q2) (fHi q2) (fLo q3) (fHi q3) (fLo q4) (fHi q4))), .val (.int (fOv (fLo q3) (fHi q3) (fLo q4) (fHi q4) (fLo q1) (fHi q1) (fLo q2) (fHi q2))), .val (.int (fMx (fLo q1) (fLo q3))), .val (.int (fMx (fLo q2) (fLo q4))), .unset] [(.int (fHi q1)), (.int (fLo q1)), (.int (fMx (fLo q1) (fLo q3)))])) rfl (by rw [hml]; rfl) (argsL := [(.int (fMx (fLo q1) (fLo q3))), (.int (fLo q1)), (.int (fHi q1))]) (rest := []) (lenOf pd__III_Z rfl) rfl (by show 2 * 0 + _ ≤ _; exact Nat.le_of_eq rfl) (hb hby at_128) (fun _ _ => ⟨rfl, e16, (by decide : 2 + 0 ≤ _), (by decide : 8 + 0 ≤ _)⟩)
  dsimp only [Pt.U, Pt.locs, Pt.cells, Pt.slots] at X17 l17 y17 z17 st17 hQ17
  subst l17 y17 z17
  obtain ⟨rfl, N17q, e17⟩ := hQ17
  have N17 := Fr.app N16 N17q
  refine go (B := T17.setTop (mkF m 131 #[.val (.long q1), .second, .val (.long q2), .second, .val (.long q3), .second, .val (.long q4), .second, .val (.int (fLo q1)), .val (.int (fHi q1)), .val (.int (fLo q2)), .val (.int (fHi q2)), .val (.int (fLo q3)), .val (.int (fHi q3)), .val (.int (fLo q4)), .val (.int (fHi q4)), .val (.ref b9), .val (.ref b11), .val (.int (fOv (fLo q1) (fHi q1) (fLo q2) (fHi q2) (fLo q3) (fHi q3) (fLo q4) (fHi q4))), .val (.int (fOv (fLo q3) (fHi q3) (fLo q4) (fHi q4) (fLo q1) (fHi q1) (fLo q2) (fHi q2))), .val (.int (fMx (fLo q1) (fLo q3))), .val (.int (fMx (fLo q2) (fLo q4))), .unset] [(.int (fIn (fMx (fLo q1) (fLo q3)) (fLo q1) (fHi q1)))])) (fun _ k => st17 _ k) ?_
  by_cases hc131 : (fIn (fMx (fLo q1) (fLo q3)) (fLo q1) (fHi q1)) = (0 : Int32)
  · refine go (B := T17.setTop (mkF m 174 #[.val (.long q1), .second, .val (.long q2), .second, .val (.long q3), .second, .val (.long q4), .second, .val (.int (fLo q1)), .val (.int (fHi q1)), .val (.int (fLo q2)), .val (.int (fHi q2)), .val (.int (fLo q3)), .val (.int (fHi q3)), .val (.int (fLo q4)), .val (.int (fHi q4)), .val (.ref b9), .val (.ref b11), .val (.int (fOv (fLo q1) (fHi q1) (fLo q2) (fHi q2) (fLo q3) (fHi q3) (fLo q4) (fHi q4))), .val (.int (fOv (fLo q3) (fHi q3) (fLo q4) (fHi q4) (fLo q1) (fHi q1) (fLo q2) (fHi q2))), .val (.int (fMx (fLo q1) (fLo q3))), .val (.int (fMx (fLo q2) (fLo q4))), .unset] [])) (fun _ k => XS.ifYes X17.here hx rfl (pc0 := 131) (pc' := 174) rfl (hb hby at_131) rfl ((if0 _ _).trans (teq hc131).1) (by decide) (by decide) k) ?_
    refine go (B := T17.setTop (mkF m 175 #[.val (.long q1), .second, .val (.long q2), .second, .val (.long q3), .second, .val (.long q4), .second, .val (.int (fLo q1)), .val (.int (fHi q1)), .val (.int (fLo q2)), .val (.int (fHi q2)), .val (.int (fLo q3)), .val (.int (fHi q3)), .val (.int (fLo q4)), .val (.int (fHi q4)), .val (.ref b9), .val (.ref b11), .val (.int (fOv (fLo q1) (fHi q1) (fLo q2) (fHi q2) (fLo q3) (fHi q3) (fLo q4) (fHi q4))), .val (.int (fOv (fLo q3) (fHi q3) (fLo q4) (fHi q4) (fLo q1) (fHi q1) (fLo q2) (fHi q2))), .val (.int (fMx (fLo q1) (fLo q3))), .val (.int (fMx (fLo q2) (fLo q4))), .unset] [(.int (0 : Int32))])) (fun _ k => XS.iconst X17.here hx rfl (hb hby at_174) k) ?_
    refine go (B := T17.setTop (mkF m 177 #[.val (.long q1), .second, .val (.long q2), .second, .val (.long q3), .second, .val (.long q4), .second, .val (.int (fLo q1)), .val (.int (fHi q1)), .val (.int (fLo q2)), .val (.int (fHi q2)), .val (.int (fLo q3)), .val (.int (fHi q3)), .val (.int (fLo q4)), .val (.int (fHi q4)), .val (.ref b9), .val (.ref b11), .val (.int (fOv (fLo q1) (fHi q1) (fLo q2) (fHi q2) (fLo q3) (fHi q3) (fLo q4) (fHi q4))), .val (.int (fOv (fLo q3) (fHi q3) (fLo q4) (fHi q4) (fLo q1) (fHi q1) (fLo q2) (fHi q2))), .val (.int (fMx (fLo q1) (fLo q3))), .val (.int (fMx (fLo q2) (fLo q4))), .val (.int (0 : Int32))] [])) (fun _ k => XS.istore X17.here hx rfl (hb hby at_175) rfl (l' := #[.val (.long q1), .second, .val (.long q2), .second, .val (.long q3), .second, .val (.long q4), .second, .val (.int (fLo q1)), .val (.int (fHi q1)), .val (.int (fLo q2)), .val (.int (fHi q2)), .val (.int (fLo q3)), .val (.int (fHi q3)), .val (.int (fLo q4)), .val (.int (fHi q4)), .val (.ref b9), .val (.ref b11), .val (.int (fOv (fLo q1) (fHi q1) (fLo q2) (fHi q2) (fLo q3) (fHi q3) (fLo q4) (fHi q4))), .val (.int (fOv (fLo q3) (fHi q3) (fLo q4) (fHi q4) (fLo q1) (fHi q1) (fLo q2) (fHi q2))), .val (.int (fMx (fLo q1) (fLo q3))), .val (.int (fMx (fLo q2) (fLo q4))), .val (.int (0 : Int32))]) rfl k) ?_
    refine go (B := T17.setTop (mkF m 179 #[.val (.long q1), .second, .val (.long q2), .second, .val (.long q3), .second, .val (.long q4), .second, .val (.int (fLo q1)), .val (.int (fHi q1)), .val (.int (fLo q2)), .val (.int (fHi q2)), .val (.int (fLo q3)), .val (.int (fHi q3)), .val (.int (fLo q4)), .val (.int (fHi q4)), .val (.ref b9), .val (.ref b11), .val (.int (fOv (fLo q1) (fHi q1) (fLo q2) (fHi q2) (fLo q3) (fHi q3) (fLo q4) (fHi q4))), .val (.int (fOv (fLo q3) (fHi q3) (fLo q4) (fHi q4) (fLo q1) (fHi q1) (fLo q2) (fHi q2))), .val (.int (fMx (fLo q1) (fLo q3))), .val (.int (fMx (fLo q2) (fLo q4))), .val (.int (0 : Int32))] [(.int (fOv (fLo q1) (fHi q1) (fLo q2) (fHi q2) (fLo q3) (fHi q3) (fLo q4) (fHi q4)))])) (fun _ k => XS.iload X17.here hx rfl (hb hby at_177) rfl k) ?_
    refine go (B := T17.setTop (mkF m 181 #[.val (.long q1), .second, .val (.long q2), .second, .val (.long q3), .second, .val (.long q4), .second, .val (.int (fLo q1)), .val (.int (fHi q1)), .val (.int (fLo q2)), .val (.int (fHi q2)), .val (.int (fLo q3)), .val (.int (fHi q3)), .val (.int (fLo q4)), .val (.int (fHi q4)), .val (.ref b9), .val (.ref b11), .val (.int (fOv (fLo q1) (fHi q1) (fLo q2) (fHi q2) (fLo q3) (fHi q3) (fLo q4) (fHi q4))), .val (.int (fOv (fLo q3) (fHi q3) (fLo q4) (fHi q4) (fLo q1) (fHi q1) (fLo q2) (fHi q2))), .val (.int (fMx (fLo q1) (fLo q3))), .val (.int (fMx (fLo q2) (fLo q4))), .val (.int (0 : Int32))] [(.int (0 : Int32)), (.int (fOv (fLo q1) (fHi q1) (fLo q2) (fHi q2) (fLo q3) (fHi q3) (fLo q4) (fHi q4)))])) (fun _ k => XS.iload X17.here hx rfl (hb hby at_179) rfl k) ?_
    by_cases hc181 : (fOv (fLo q1) (fHi q1) (fLo q2) (fHi q2) (fLo q3) (fHi q3) (fLo q4) (fHi q4)) = (0 : Int32)
    · refine go (B := T17.setTop (mkF m 184 #[.val (.long q1), .second, .val (.long q2), .second, .val (.long q3), .second, .val (.long q4), .second, .val (.int (fLo q1)), .val (.int (fHi q1)), .val (.int (fLo q2)), .val (.int (fHi q2)), .val (.int (fLo q3)), .val (.int (fHi q3)), .val (.int (fLo q4)), .val (.int (fHi q4)), .val (.ref b9), .val (.ref b11), .val (.int (fOv (fLo q1) (fHi q1) (fLo q2) (fHi q2) (fLo q3) (fHi q3) (fLo q4) (fHi q4))), .val (.int (fOv (fLo q3) (fHi q3) (fLo q4) (fHi q4) (fLo q1) (fHi q1) (fLo q2) (fHi q2))), .val (.int (fMx (fLo q1) (fLo q3))), .val (.int (fMx (fLo q2) (fLo q4))), .val (.int (0 : Int32))] [])) (fun _ k => XS.icmpNo X17.here hx rfl (hb hby at_181) rfl (teq hc181).2 k) ?_
      refine go (B := T17.setTop (mkF m 186 #[.val (.long q1), .second, .val (.long q2), .second, .val (.long q3), .second, .val (.long q4), .second, .val (.int (fLo q1)), .val (.int (fHi q1)), .val (.int (fLo q2)), .val (.int (fHi q2)), .val (.int (fLo q3)), .val (.int (fHi q3)), .val (.int (fLo q4)), .val (.int (fHi q4)), .val (.ref b9), .val (.ref b11), .val (.int (fOv (fLo q1) (fHi q1) (fLo q2) (fHi q2) (fLo q3) (fHi q3) (fLo q4) (fHi q4))), .val (.int (fOv (fLo q3) (fHi q3) (fLo q4) (fHi q4) (fLo q1) (fHi q1) (fLo q2) (fHi q2))), .val (.int (fMx (fLo q1) (fLo q3))), .val (.int (fMx (fLo q2) (fLo q4))), .val (.int (0 : Int32))] [(.int (fOv (fLo q3) (fHi q3) (fLo q4) (fHi q4) (fLo q1) (fHi q1) (fLo q2) (fHi q2)))])) (fun _ k => XS.iload X17.here hx rfl (hb hby at_184) rfl k) ?_
      refine go (B := T17.setTop (mkF m 188 #[.val (.long q1), .second, .val (.long q2), .second, .val (.long q3), .second, .val (.long q4), .second, .val (.int (fLo q1)), .val (.int (fHi q1)), .val (.int (fLo q2)), .val (.int (fHi q2)), .val (.int (fLo q3)), .val (.int (fHi q3)), .val (.int (fLo q4)), .val (.int (fHi q4)), .val (.ref b9), .val (.ref b11), .val (.int (fOv (fLo q1) (fHi q1) (fLo q2) (fHi q2) (fLo q3) (fHi q3) (fLo q4) (fHi q4))), .val (.int (fOv (fLo q3) (fHi q3) (fLo q4) (fHi q4) (fLo q1) (fHi q1) (fLo q2) (fHi q2))), .val (.int (fMx (fLo q1) (fLo q3))), .val (.int (fMx (fLo q2) (fLo q4))), .val (.int (0 : Int32))] [(.int (0 : Int32)), (.int (fOv (fLo q3) (fHi q3) (fLo q4) (fHi q4) (fLo q1) (fHi q1) (fLo q2) (fHi q2)))])) (fun _ k => XS.iload X17.here hx rfl (hb hby at_186) rfl k) ?_
      by_cases hc188 : (fOv (fLo q3) (fHi q3) (fLo q4) (fHi q4) (fLo q1) (fHi q1) (fLo q2) (fHi q2)) = (0 : Int32)
      · refine go (B := T17.setTop (mkF m 191 #[.val (.long q1), .second, .val (.long q2), .second, .val (.long q3), .second, .val (.long q4), .second, .val (.int (fLo q1)), .val (.int (fHi q1)), .val (.int (fLo q2)), .val (.int (fHi q2)), .val (.int (fLo q3)), .val (.int (fHi q3)), .val (.int (fLo q4)), .val (.int (fHi q4)), .val (.ref b9), .val (.ref b11), .val (.int (fOv (fLo q1) (fHi q1) (fLo q2) (fHi q2) (fLo q3) (fHi q3) (fLo q4) (fHi q4))), .val (.int (fOv (fLo q3) (fHi q3) (fLo q4) (fHi q4) (fLo q1) (fHi q1) (fLo q2) (fHi q2))), .val (.int (fMx (fLo q1) (fLo q3))), .val (.int (fMx (fLo q2) (fLo q4))), .val (.int (0 : Int32))] [])) (fun _ k => XS.icmpNo X17.here hx rfl (hb hby at_188) rfl (teq hc188).2 k) ?_
        refine go (B := T17.setTop (mkF m 192 #[.val (.long q1), .second, .val (.long q2), .second, .val (.long q3), .second, .val (.long q4), .second, .val (.int (fLo q1)), .val (.int (fHi q1)), .val (.int (fLo q2)), .val (.int (fHi q2)), .val (.int (fLo q3)), .val (.int (fHi q3)), .val (.int (fLo q4)), .val (.int (fHi q4)), .val (.ref b9), .val (.ref b11), .val (.int (fOv (fLo q1) (fHi q1) (fLo q2) (fHi q2) (fLo q3) (fHi q3) (fLo q4) (fHi q4))), .val (.int (fOv (fLo q3) (fHi q3) (fLo q4) (fHi q4) (fLo q1) (fHi q1) (fLo q2) (fHi q2))), .val (.int (fMx (fLo q1) (fLo q3))), .val (.int (fMx (fLo q2) (fLo q4))), .val (.int (0 : Int32))] [(.int (1 : Int32))])) (fun _ k => XS.iconst X17.here hx rfl (hb hby at_191) k) ?_
        refine go (B := T17.setTop (mkF m 196 #[.val (.long q1), .second, .val (.long q2), .second, .val (.long q3), .second, .val (.long q4), .second, .val (.int (fLo q1)), .val (.int (fHi q1)), .val (.int (fLo q2)), .val (.int (fHi q2)), .val (.int (fLo q3)), .val (.int (fHi q3)), .val (.int (fLo q4)), .val (.int (fHi q4)), .val (.ref b9), .val (.ref b11), .val (.int (fOv (fLo q1) (fHi q1) (fLo q2) (fHi q2) (fLo q3) (fHi q3) (fLo q4) (fHi q4))), .val (.int (fOv (fLo q3) (fHi q3) (fLo q4) (fHi q4) (fLo q1) (fHi q1) (fLo q2) (fHi q2))), .val (.int (fMx (fLo q1) (fLo q3))), .val (.int (fMx (fLo q2) (fLo q4))), .val (.int (0 : Int32))] [(.int (1 : Int32))])) (fun _ k => XS.goto X17.here hx rfl (pc0 := 192) (pc' := 196) rfl (hb hby at_192) (by decide) (by decide) k) ?_
        refine goRetN X17 hx (t := .boolean) Bd.returns (by simp) hlk (hb hby at_196) ?_ (by decide) (by decide)
        rw [e17]
        exact ⟨rfl, N17⟩
      · refine go (B := T17.setTop (mkF m 195 #[.val (.long q1), .second, .val (.long q2), .second, .val (.long q3), .second, .val (.long q4), .second, .val (.int (fLo q1)), .val (.int (fHi q1)), .val (.int (fLo q2)), .val (.int (fHi q2)), .val (.int (fLo q3)), .val (.int (fHi q3)), .val (.int (fLo q4)), .val (.int (fHi q4)), .val (.ref b9), .val (.ref b11), .val (.int (fOv (fLo q1) (fHi q1) (fLo q2) (fHi q2) (fLo q3) (fHi q3) (fLo q4) (fHi q4))), .val (.int (fOv (fLo q3) (fHi q3) (fLo q4) (fHi q4) (fLo q1) (fHi q1) (fLo q2) (fHi q2))), .val (.int (fMx (fLo q1) (fLo q3))), .val (.int (fMx (fLo q2) (fLo q4))), .val (.int (0 : Int32))] [])) (fun _ k => XS.icmpYes X17.here hx rfl (pc0 := 188) (pc' := 195) rfl (hb hby at_188) rfl (feq hc188).2 (by decide) (by decide) k) ?_
        refine go (B := T17.setTop (mkF m 196 #[.val (.long q1), .second, .val (.long q2), .second, .val (.long q3), .second, .val (.long q4), .second, .val (.int (fLo q1)), .val (.int (fHi q1)), .val (.int (fLo q2)), .val (.int (fHi q2)), .val (.int (fLo q3)), .val (.int (fHi q3)), .val (.int (fLo q4)), .val (.int (fHi q4)), .val (.ref b9), .val (.ref b11), .val (.int (fOv (fLo q1) (fHi q1) (fLo q2) (fHi q2) (fLo q3) (fHi q3) (fLo q4) (fHi q4))), .val (.int (fOv (fLo q3) (fHi q3) (fLo q4) (fHi q4) (fLo q1) (fHi q1) (fLo q2) (fHi q2))), .val (.int (fMx (fLo q1) (fLo q3))), .val (.int (fMx (fLo q2) (fLo q4))), .val (.int (0 : Int32))] [(.int (0 : Int32))])) (fun _ k => XS.iconst X17.here hx rfl (hb hby at_195) k) ?_
        refine goRetN X17 hx (t := .boolean) Bd.returns (by simp) hlk (hb hby at_196) ?_ (by decide) (by decide)
        rw [e17]
        exfalso
        have t1 := fOv_int (fLo q1) (fHi q1) (fLo q2) (fHi q2) (fLo q3) (fHi q3) (fLo q4) (fHi q4)
        have t2 := fOv_int (fLo q3) (fHi q3) (fLo q4) (fHi q4) (fLo q1) (fHi q1) (fLo q2) (fHi q2)
        have m1 := fMx_int (fLo q1) (fLo q3)
        have m2 := fMx_int (fLo q2) (fLo q4)
        have i1 := fIn_int (fMx (fLo q1) (fLo q3)) (fLo q1) (fHi q1)
        have i2 := fIn_int (fMx (fLo q1) (fLo q3)) (fLo q3) (fHi q3)
        have i3 := fIn_int (fMx (fLo q2) (fLo q4)) (fLo q2) (fHi q2)
        have i4 := fIn_int (fMx (fLo q2) (fLo q4)) (fLo q4) (fHi q4)
        have v1 := lo_hi q1
        have v2 := lo_hi q2
        have v3 := lo_hi q3
        have v4 := lo_hi q4
        simp only [Int32.lt_iff_toInt_lt, Int64.lt_iff_toInt_lt, ← Int32.toInt_inj, ← Int64.toInt_inj, Int32.reduceToInt, Int64.reduceToInt] at  hc131 hc181 hc188
        omega
    · refine go (B := T17.setTop (mkF m 195 #[.val (.long q1), .second, .val (.long q2), .second, .val (.long q3), .second, .val (.long q4), .second, .val (.int (fLo q1)), .val (.int (fHi q1)), .val (.int (fLo q2)), .val (.int (fHi q2)), .val (.int (fLo q3)), .val (.int (fHi q3)), .val (.int (fLo q4)), .val (.int (fHi q4)), .val (.ref b9), .val (.ref b11), .val (.int (fOv (fLo q1) (fHi q1) (fLo q2) (fHi q2) (fLo q3) (fHi q3) (fLo q4) (fHi q4))), .val (.int (fOv (fLo q3) (fHi q3) (fLo q4) (fHi q4) (fLo q1) (fHi q1) (fLo q2) (fHi q2))), .val (.int (fMx (fLo q1) (fLo q3))), .val (.int (fMx (fLo q2) (fLo q4))), .val (.int (0 : Int32))] [])) (fun _ k => XS.icmpYes X17.here hx rfl (pc0 := 181) (pc' := 195) rfl (hb hby at_181) rfl (feq hc181).2 (by decide) (by decide) k) ?_
      refine go (B := T17.setTop (mkF m 196 #[.val (.long q1), .second, .val (.long q2), .second, .val (.long q3), .second, .val (.long q4), .second, .val (.int (fLo q1)), .val (.int (fHi q1)), .val (.int (fLo q2)), .val (.int (fHi q2)), .val (.int (fLo q3)), .val (.int (fHi q3)), .val (.int (fLo q4)), .val (.int (fHi q4)), .val (.ref b9), .val (.ref b11), .val (.int (fOv (fLo q1) (fHi q1) (fLo q2) (fHi q2) (fLo q3) (fHi q3) (fLo q4) (fHi q4))), .val (.int (fOv (fLo q3) (fHi q3) (fLo q4) (fHi q4) (fLo q1) (fHi q1) (fLo q2) (fHi q2))), .val (.int (fMx (fLo q1) (fLo q3))), .val (.int (fMx (fLo q2) (fLo q4))), .val (.int (0 : Int32))] [(.int (0 : Int32))])) (fun _ k => XS.iconst X17.here hx rfl (hb hby at_195) k) ?_
      refine goRetN X17 hx (t := .boolean) Bd.returns (by simp) hlk (hb hby at_196) ?_ (by decide) (by decide)
      rw [e17]
      exfalso
      have t1 := fOv_int (fLo q1) (fHi q1) (fLo q2) (fHi q2) (fLo q3) (fHi q3) (fLo q4) (fHi q4)
      have t2 := fOv_int (fLo q3) (fHi q3) (fLo q4) (fHi q4) (fLo q1) (fHi q1) (fLo q2) (fHi q2)
      have m1 := fMx_int (fLo q1) (fLo q3)
      have m2 := fMx_int (fLo q2) (fLo q4)
      have i1 := fIn_int (fMx (fLo q1) (fLo q3)) (fLo q1) (fHi q1)
      have i2 := fIn_int (fMx (fLo q1) (fLo q3)) (fLo q3) (fHi q3)
      have i3 := fIn_int (fMx (fLo q2) (fLo q4)) (fLo q2) (fHi q2)
      have i4 := fIn_int (fMx (fLo q2) (fLo q4)) (fLo q4) (fHi q4)
      have v1 := lo_hi q1
      have v2 := lo_hi q2
      have v3 := lo_hi q3
      have v4 := lo_hi q4
      simp only [Int32.lt_iff_toInt_lt, Int64.lt_iff_toInt_lt, ← Int32.toInt_inj, ← Int64.toInt_inj, Int32.reduceToInt, Int64.reduceToInt] at  hc131 hc181
      omega
  · refine go (B := T17.setTop (mkF m 134 #[.val (.long q1), .second, .val (.long q2), .second, .val (.long q3), .second, .val (.long q4), .second, .val (.int (fLo q1)), .val (.int (fHi q1)), .val (.int (fLo q2)), .val (.int (fHi q2)), .val (.int (fLo q3)), .val (.int (fHi q3)), .val (.int (fLo q4)), .val (.int (fHi q4)), .val (.ref b9), .val (.ref b11), .val (.int (fOv (fLo q1) (fHi q1) (fLo q2) (fHi q2) (fLo q3) (fHi q3) (fLo q4) (fHi q4))), .val (.int (fOv (fLo q3) (fHi q3) (fLo q4) (fHi q4) (fLo q1) (fHi q1) (fLo q2) (fHi q2))), .val (.int (fMx (fLo q1) (fLo q3))), .val (.int (fMx (fLo q2) (fLo q4))), .unset] [])) (fun _ k => XS.ifNo X17.here hx rfl (hb hby at_131) rfl ((if0 _ _).trans (feq hc131).1) k) ?_
    refine go (B := T17.setTop (mkF m 136 #[.val (.long q1), .second, .val (.long q2), .second, .val (.long q3), .second, .val (.long q4), .second, .val (.int (fLo q1)), .val (.int (fHi q1)), .val (.int (fLo q2)), .val (.int (fHi q2)), .val (.int (fLo q3)), .val (.int (fHi q3)), .val (.int (fLo q4)), .val (.int (fHi q4)), .val (.ref b9), .val (.ref b11), .val (.int (fOv (fLo q1) (fHi q1) (fLo q2) (fHi q2) (fLo q3) (fHi q3) (fLo q4) (fHi q4))), .val (.int (fOv (fLo q3) (fHi q3) (fLo q4) (fHi q4) (fLo q1) (fHi q1) (fLo q2) (fHi q2))), .val (.int (fMx (fLo q1) (fLo q3))), .val (.int (fMx (fLo q2) (fLo q4))), .unset] [(.int (fMx (fLo q1) (fLo q3)))])) (fun _ k => XS.iload X17.here hx rfl (hb hby at_134) rfl k) ?_
    refine go (B := T17.setTop (mkF m 138 #[.val (.long q1), .second, .val (.long q2), .second, .val (.long q3), .second, .val (.long q4), .second, .val (.int (fLo q1)), .val (.int (fHi q1)), .val (.int (fLo q2)), .val (.int (fHi q2)), .val (.int (fLo q3)), .val (.int (fHi q3)), .val (.int (fLo q4)), .val (.int (fHi q4)), .val (.ref b9), .val (.ref b11), .val (.int (fOv (fLo q1) (fHi q1) (fLo q2) (fHi q2) (fLo q3) (fHi q3) (fLo q4) (fHi q4))), .val (.int (fOv (fLo q3) (fHi q3) (fLo q4) (fHi q4) (fLo q1) (fHi q1) (fLo q2) (fHi q2))), .val (.int (fMx (fLo q1) (fLo q3))), .val (.int (fMx (fLo q2) (fLo q4))), .unset] [(.int (fLo q3)), (.int (fMx (fLo q1) (fLo q3)))])) (fun _ k => XS.iload X17.here hx rfl (hb hby at_136) rfl k) ?_
    refine go (B := T17.setTop (mkF m 140 #[.val (.long q1), .second, .val (.long q2), .second, .val (.long q3), .second, .val (.long q4), .second, .val (.int (fLo q1)), .val (.int (fHi q1)), .val (.int (fLo q2)), .val (.int (fHi q2)), .val (.int (fLo q3)), .val (.int (fHi q3)), .val (.int (fLo q4)), .val (.int (fHi q4)), .val (.ref b9), .val (.ref b11), .val (.int (fOv (fLo q1) (fHi q1) (fLo q2) (fHi q2) (fLo q3) (fHi q3) (fLo q4) (fHi q4))), .val (.int (fOv (fLo q3) (fHi q3) (fLo q4) (fHi q4) (fLo q1) (fHi q1) (fLo q2) (fHi q2))), .val (.int (fMx (fLo q1) (fLo q3))), .val (.int (fMx (fLo q2) (fLo q4))), .unset] [(.int (fHi q3)), (.int (fLo q3)), (.int (fMx (fLo q1) (fLo q3)))])) (fun _ k => XS.iload X17.here hx rfl (hb hby at_138) rfl k) ?_
    obtain ⟨_, _, ⟨T18, L18, k18, n18⟩, -, X18, ⟨Lc18, hQ18, l18, y18, z18⟩, st18⟩ := Jvm.LawKit.callS X17 hx (y := (⟨"com/example/eel_river/eelriver/space/CellRangeOverlapsPinLaw", "in", "(III)Z"⟩ : MethodName)) hown (mvT hZ (hw _ (List.mem_of_getElem? (i := 48) rfl))) (mvT hZ (hw _ (List.mem_of_getElem? (i := 49) rfl))) (mvT hZ (hw _ (List.mem_of_getElem? (i := 2) rfl))) (mvT hZ (hw _ (List.mem_of_getElem? (i := 50) rfl))) (by decide) (backOf (W := 0) (rm11 l Z a0 hw [] (fMx (fLo q1) (fLo q3)) (fLo q3) (fHi q3) T12.heap n0 ZB) hZ (hw _ (List.mem_of_getElem? (i := 50) rfl)) (hw _ (List.mem_of_getElem? (i := 2) rfl)) (by decide) (by decide)) (g := (mkF m 140 #[.val (.long q1), .second, .val (.long q2), .second, .val (.long q3), .second, .val (.long q4), .second, .val (.int (fLo q1)), .val (.int (fHi q1)), .val (.int (fLo q2)), .val (.int (fHi q2)), .val (.int (fLo q3)), .val (.int (fHi q3)), .val (.int (fLo q4)), .val (.int (fHi q4)), .val (.ref b9), .val (.ref b11), .val (.int (fOv (fLo q1) (fHi q1) (fLo q2) (fHi q2) (fLo q3) (fHi q3) (fLo q4) (fHi q4))), .val (.int (fOv (fLo q3) (fHi q3) (fLo q4) (fHi q4) (fLo q1) (fHi q1) (fLo q2) (fHi q2))), .val (.int (fMx (fLo q1) (fLo q3))), .val (.int (fMx (fLo q2) (fLo q4))), .unset] [(.int (fHi q3)), (.int (fLo q3)), (.int (fMx (fLo q1) (fLo q3)))])) rfl (by rw [hml]; rfl) (argsL := [(.int (fMx (fLo q1) (fLo q3))), (.int (fLo q3)), (.int (fHi q3))]) (rest := []) (lenOf pd__III_Z rfl) rfl (by show 2 * 0 + _ ≤ _; exact Nat.le_of_eq rfl) (hb hby at_140) (fun _ _ => ⟨rfl, e17, (by decide : 2 + 0 ≤ _), (by decide : 8 + 0 ≤ _)⟩)
    dsimp only [Pt.U, Pt.locs, Pt.cells, Pt.slots] at X18 l18 y18 z18 st18 hQ18
    subst l18 y18 z18
    obtain ⟨rfl, N18q, e18⟩ := hQ18
    have N18 := Fr.app N17 N18q
    refine go (B := T18.setTop (mkF m 143 #[.val (.long q1), .second, .val (.long q2), .second, .val (.long q3), .second, .val (.long q4), .second, .val (.int (fLo q1)), .val (.int (fHi q1)), .val (.int (fLo q2)), .val (.int (fHi q2)), .val (.int (fLo q3)), .val (.int (fHi q3)), .val (.int (fLo q4)), .val (.int (fHi q4)), .val (.ref b9), .val (.ref b11), .val (.int (fOv (fLo q1) (fHi q1) (fLo q2) (fHi q2) (fLo q3) (fHi q3) (fLo q4) (fHi q4))), .val (.int (fOv (fLo q3) (fHi q3) (fLo q4) (fHi q4) (fLo q1) (fHi q1) (fLo q2) (fHi q2))), .val (.int (fMx (fLo q1) (fLo q3))), .val (.int (fMx (fLo q2) (fLo q4))), .unset] [(.int (fIn (fMx (fLo q1) (fLo q3)) (fLo q3) (fHi q3)))])) (fun _ k => st18 _ k) ?_
    by_cases hc143 : (fIn (fMx (fLo q1) (fLo q3)) (fLo q3) (fHi q3)) = (0 : Int32)
    · refine go (B := T18.setTop (mkF m 174 #[.val (.long q1), .second, .val (.long q2), .second, .val (.long q3), .second, .val (.long q4), .second, .val (.int (fLo q1)), .val (.int (fHi q1)), .val (.int (fLo q2)), .val (.int (fHi q2)), .val (.int (fLo q3)), .val (.int (fHi q3)), .val (.int (fLo q4)), .val (.int (fHi q4)), .val (.ref b9), .val (.ref b11), .val (.int (fOv (fLo q1) (fHi q1) (fLo q2) (fHi q2) (fLo q3) (fHi q3) (fLo q4) (fHi q4))), .val (.int (fOv (fLo q3) (fHi q3) (fLo q4) (fHi q4) (fLo q1) (fHi q1) (fLo q2) (fHi q2))), .val (.int (fMx (fLo q1) (fLo q3))), .val (.int (fMx (fLo q2) (fLo q4))), .unset] [])) (fun _ k => XS.ifYes X18.here hx rfl (pc0 := 143) (pc' := 174) rfl (hb hby at_143) rfl ((if0 _ _).trans (teq hc143).1) (by decide) (by decide) k) ?_
      refine go (B := T18.setTop (mkF m 175 #[.val (.long q1), .second, .val (.long q2), .second, .val (.long q3), .second, .val (.long q4), .second, .val (.int (fLo q1)), .val (.int (fHi q1)), .val (.int (fLo q2)), .val (.int (fHi q2)), .val (.int (fLo q3)), .val (.int (fHi q3)), .val (.int (fLo q4)), .val (.int (fHi q4)), .val (.ref b9), .val (.ref b11), .val (.int (fOv (fLo q1) (fHi q1) (fLo q2) (fHi q2) (fLo q3) (fHi q3) (fLo q4) (fHi q4))), .val (.int (fOv (fLo q3) (fHi q3) (fLo q4) (fHi q4) (fLo q1) (fHi q1) (fLo q2) (fHi q2))), .val (.int (fMx (fLo q1) (fLo q3))), .val (.int (fMx (fLo q2) (fLo q4))), .unset] [(.int (0 : Int32))])) (fun _ k => XS.iconst X18.here hx rfl (hb hby at_174) k) ?_
      refine go (B := T18.setTop (mkF m 177 #[.val (.long q1), .second, .val (.long q2), .second, .val (.long q3), .second, .val (.long q4), .second, .val (.int (fLo q1)), .val (.int (fHi q1)), .val (.int (fLo q2)), .val (.int (fHi q2)), .val (.int (fLo q3)), .val (.int (fHi q3)), .val (.int (fLo q4)), .val (.int (fHi q4)), .val (.ref b9), .val (.ref b11), .val (.int (fOv (fLo q1) (fHi q1) (fLo q2) (fHi q2) (fLo q3) (fHi q3) (fLo q4) (fHi q4))), .val (.int (fOv (fLo q3) (fHi q3) (fLo q4) (fHi q4) (fLo q1) (fHi q1) (fLo q2) (fHi q2))), .val (.int (fMx (fLo q1) (fLo q3))), .val (.int (fMx (fLo q2) (fLo q4))), .val (.int (0 : Int32))] [])) (fun _ k => XS.istore X18.here hx rfl (hb hby at_175) rfl (l' := #[.val (.long q1), .second, .val (.long q2), .second, .val (.long q3), .second, .val (.long q4), .second, .val (.int (fLo q1)), .val (.int (fHi q1)), .val (.int (fLo q2)), .val (.int (fHi q2)), .val (.int (fLo q3)), .val (.int (fHi q3)), .val (.int (fLo q4)), .val (.int (fHi q4)), .val (.ref b9), .val (.ref b11), .val (.int (fOv (fLo q1) (fHi q1) (fLo q2) (fHi q2) (fLo q3) (fHi q3) (fLo q4) (fHi q4))), .val (.int (fOv (fLo q3) (fHi q3) (fLo q4) (fHi q4) (fLo q1) (fHi q1) (fLo q2) (fHi q2))), .val (.int (fMx (fLo q1) (fLo q3))), .val (.int (fMx (fLo q2) (fLo q4))), .val (.int (0 : Int32))]) rfl k) ?_
      refine go (B := T18.setTop (mkF m 179 #[.val (.long q1), .second, .val (.long q2), .second, .val (.long q3), .second, .val (.long q4), .second, .val (.int (fLo q1)), .val (.int (fHi q1)), .val (.int (fLo q2)), .val (.int (fHi q2)), .val (.int (fLo q3)), .val (.int (fHi q3)), .val (.int (fLo q4)), .val (.int (fHi q4)), .val (.ref b9), .val (.ref b11), .val (.int (fOv (fLo q1) (fHi q1) (fLo q2) (fHi q2) (fLo q3) (fHi q3) (fLo q4) (fHi q4))), .val (.int (fOv (fLo q3) (fHi q3) (fLo q4) (fHi q4) (fLo q1) (fHi q1) (fLo q2) (fHi q2))), .val (.int (fMx (fLo q1) (fLo q3))), .val (.int (fMx (fLo q2) (fLo q4))), .val (.int (0 : Int32))] [(.int (fOv (fLo q1) (fHi q1) (fLo q2) (fHi q2) (fLo q3) (fHi q3) (fLo q4) (fHi q4)))])) (fun _ k => XS.iload X18.here hx rfl (hb hby at_177) rfl k) ?_
      refine go (B := T18.setTop (mkF m 181 #[.val (.long q1), .second, .val (.long q2), .second, .val (.long q3), .second, .val (.long q4), .second, .val (.int (fLo q1)), .val (.int (fHi q1)), .val (.int (fLo q2)), .val (.int (fHi q2)), .val (.int (fLo q3)), .val (.int (fHi q3)), .val (.int (fLo q4)), .val (.int (fHi q4)), .val (.ref b9), .val (.ref b11), .val (.int (fOv (fLo q1) (fHi q1) (fLo q2) (fHi q2) (fLo q3) (fHi q3) (fLo q4) (fHi q4))), .val (.int (fOv (fLo q3) (fHi q3) (fLo q4) (fHi q4) (fLo q1) (fHi q1) (fLo q2) (fHi q2))), .val (.int (fMx (fLo q1) (fLo q3))), .val (.int (fMx (fLo q2) (fLo q4))), .val (.int (0 : Int32))] [(.int (0 : Int32)), (.int (fOv (fLo q1) (fHi q1) (fLo q2) (fHi q2) (fLo q3) (fHi q3) (fLo q4) (fHi q4)))])) (fun _ k => XS.iload X18.here hx rfl (hb hby at_179) rfl k) ?_
      by_cases hc181 : (fOv (fLo q1) (fHi q1) (fLo q2) (fHi q2) (fLo q3) (fHi q3) (fLo q4) (fHi q4)) = (0 : Int32)
      · refine go (B := T18.setTop (mkF m 184 #[.val (.long q1), .second, .val (.long q2), .second, .val (.long q3), .second, .val (.long q4), .second, .val (.int (fLo q1)), .val (.int (fHi q1)), .val (.int (fLo q2)), .val (.int (fHi q2)), .val (.int (fLo q3)), .val (.int (fHi q3)), .val (.int (fLo q4)), .val (.int (fHi q4)), .val (.ref b9), .val (.ref b11), .val (.int (fOv (fLo q1) (fHi q1) (fLo q2) (fHi q2) (fLo q3) (fHi q3) (fLo q4) (fHi q4))), .val (.int (fOv (fLo q3) (fHi q3) (fLo q4) (fHi q4) (fLo q1) (fHi q1) (fLo q2) (fHi q2))), .val (.int (fMx (fLo q1) (fLo q3))), .val (.int (fMx (fLo q2) (fLo q4))), .val (.int (0 : Int32))] [])) (fun _ k => XS.icmpNo X18.here hx rfl (hb hby at_181) rfl (teq hc181).2 k) ?_
        refine go (B := T18.setTop (mkF m 186 #[.val (.long q1), .second, .val (.long q2), .second, .val (.long q3), .second, .val (.long q4), .second, .val (.int (fLo q1)), .val (.int (fHi q1)), .val (.int (fLo q2)), .val (.int (fHi q2)), .val (.int (fLo q3)), .val (.int (fHi q3)), .val (.int (fLo q4)), .val (.int (fHi q4)), .val (.ref b9), .val (.ref b11), .val (.int (fOv (fLo q1) (fHi q1) (fLo q2) (fHi q2) (fLo q3) (fHi q3) (fLo q4) (fHi q4))), .val (.int (fOv (fLo q3) (fHi q3) (fLo q4) (fHi q4) (fLo q1) (fHi q1) (fLo q2) (fHi q2))), .val (.int (fMx (fLo q1) (fLo q3))), .val (.int (fMx (fLo q2) (fLo q4))), .val (.int (0 : Int32))] [(.int (fOv (fLo q3) (fHi q3) (fLo q4) (fHi q4) (fLo q1) (fHi q1) (fLo q2) (fHi q2)))])) (fun _ k => XS.iload X18.here hx rfl (hb hby at_184) rfl k) ?_
        refine go (B := T18.setTop (mkF m 188 #[.val (.long q1), .second, .val (.long q2), .second, .val (.long q3), .second, .val (.long q4), .second, .val (.int (fLo q1)), .val (.int (fHi q1)), .val (.int (fLo q2)), .val (.int (fHi q2)), .val (.int (fLo q3)), .val (.int (fHi q3)), .val (.int (fLo q4)), .val (.int (fHi q4)), .val (.ref b9), .val (.ref b11), .val (.int (fOv (fLo q1) (fHi q1) (fLo q2) (fHi q2) (fLo q3) (fHi q3) (fLo q4) (fHi q4))), .val (.int (fOv (fLo q3) (fHi q3) (fLo q4) (fHi q4) (fLo q1) (fHi q1) (fLo q2) (fHi q2))), .val (.int (fMx (fLo q1) (fLo q3))), .val (.int (fMx (fLo q2) (fLo q4))), .val (.int (0 : Int32))] [(.int (0 : Int32)), (.int (fOv (fLo q3) (fHi q3) (fLo q4) (fHi q4) (fLo q1) (fHi q1) (fLo q2) (fHi q2)))])) (fun _ k => XS.iload X18.here hx rfl (hb hby at_186) rfl k) ?_
        by_cases hc188 : (fOv (fLo q3) (fHi q3) (fLo q4) (fHi q4) (fLo q1) (fHi q1) (fLo q2) (fHi q2)) = (0 : Int32)
        · refine go (B := T18.setTop (mkF m 191 #[.val (.long q1), .second, .val (.long q2), .second, .val (.long q3), .second, .val (.long q4), .second, .val (.int (fLo q1)), .val (.int (fHi q1)), .val (.int (fLo q2)), .val (.int (fHi q2)), .val (.int (fLo q3)), .val (.int (fHi q3)), .val (.int (fLo q4)), .val (.int (fHi q4)), .val (.ref b9), .val (.ref b11), .val (.int (fOv (fLo q1) (fHi q1) (fLo q2) (fHi q2) (fLo q3) (fHi q3) (fLo q4) (fHi q4))), .val (.int (fOv (fLo q3) (fHi q3) (fLo q4) (fHi q4) (fLo q1) (fHi q1) (fLo q2) (fHi q2))), .val (.int (fMx (fLo q1) (fLo q3))), .val (.int (fMx (fLo q2) (fLo q4))), .val (.int (0 : Int32))] [])) (fun _ k => XS.icmpNo X18.here hx rfl (hb hby at_188) rfl (teq hc188).2 k) ?_
          refine go (B := T18.setTop (mkF m 192 #[.val (.long q1), .second, .val (.long q2), .second, .val (.long q3), .second, .val (.long q4), .second, .val (.int (fLo q1)), .val (.int (fHi q1)), .val (.int (fLo q2)), .val (.int (fHi q2)), .val (.int (fLo q3)), .val (.int (fHi q3)), .val (.int (fLo q4)), .val (.int (fHi q4)), .val (.ref b9), .val (.ref b11), .val (.int (fOv (fLo q1) (fHi q1) (fLo q2) (fHi q2) (fLo q3) (fHi q3) (fLo q4) (fHi q4))), .val (.int (fOv (fLo q3) (fHi q3) (fLo q4) (fHi q4) (fLo q1) (fHi q1) (fLo q2) (fHi q2))), .val (.int (fMx (fLo q1) (fLo q3))), .val (.int (fMx (fLo q2) (fLo q4))), .val (.int (0 : Int32))] [(.int (1 : Int32))])) (fun _ k => XS.iconst X18.here hx rfl (hb hby at_191) k) ?_
          refine go (B := T18.setTop (mkF m 196 #[.val (.long q1), .second, .val (.long q2), .second, .val (.long q3), .second, .val (.long q4), .second, .val (.int (fLo q1)), .val (.int (fHi q1)), .val (.int (fLo q2)), .val (.int (fHi q2)), .val (.int (fLo q3)), .val (.int (fHi q3)), .val (.int (fLo q4)), .val (.int (fHi q4)), .val (.ref b9), .val (.ref b11), .val (.int (fOv (fLo q1) (fHi q1) (fLo q2) (fHi q2) (fLo q3) (fHi q3) (fLo q4) (fHi q4))), .val (.int (fOv (fLo q3) (fHi q3) (fLo q4) (fHi q4) (fLo q1) (fHi q1) (fLo q2) (fHi q2))), .val (.int (fMx (fLo q1) (fLo q3))), .val (.int (fMx (fLo q2) (fLo q4))), .val (.int (0 : Int32))] [(.int (1 : Int32))])) (fun _ k => XS.goto X18.here hx rfl (pc0 := 192) (pc' := 196) rfl (hb hby at_192) (by decide) (by decide) k) ?_
          refine goRetN X18 hx (t := .boolean) Bd.returns (by simp) hlk (hb hby at_196) ?_ (by decide) (by decide)
          rw [e18]
          exact ⟨rfl, N18⟩
        · refine go (B := T18.setTop (mkF m 195 #[.val (.long q1), .second, .val (.long q2), .second, .val (.long q3), .second, .val (.long q4), .second, .val (.int (fLo q1)), .val (.int (fHi q1)), .val (.int (fLo q2)), .val (.int (fHi q2)), .val (.int (fLo q3)), .val (.int (fHi q3)), .val (.int (fLo q4)), .val (.int (fHi q4)), .val (.ref b9), .val (.ref b11), .val (.int (fOv (fLo q1) (fHi q1) (fLo q2) (fHi q2) (fLo q3) (fHi q3) (fLo q4) (fHi q4))), .val (.int (fOv (fLo q3) (fHi q3) (fLo q4) (fHi q4) (fLo q1) (fHi q1) (fLo q2) (fHi q2))), .val (.int (fMx (fLo q1) (fLo q3))), .val (.int (fMx (fLo q2) (fLo q4))), .val (.int (0 : Int32))] [])) (fun _ k => XS.icmpYes X18.here hx rfl (pc0 := 188) (pc' := 195) rfl (hb hby at_188) rfl (feq hc188).2 (by decide) (by decide) k) ?_
          refine go (B := T18.setTop (mkF m 196 #[.val (.long q1), .second, .val (.long q2), .second, .val (.long q3), .second, .val (.long q4), .second, .val (.int (fLo q1)), .val (.int (fHi q1)), .val (.int (fLo q2)), .val (.int (fHi q2)), .val (.int (fLo q3)), .val (.int (fHi q3)), .val (.int (fLo q4)), .val (.int (fHi q4)), .val (.ref b9), .val (.ref b11), .val (.int (fOv (fLo q1) (fHi q1) (fLo q2) (fHi q2) (fLo q3) (fHi q3) (fLo q4) (fHi q4))), .val (.int (fOv (fLo q3) (fHi q3) (fLo q4) (fHi q4) (fLo q1) (fHi q1) (fLo q2) (fHi q2))), .val (.int (fMx (fLo q1) (fLo q3))), .val (.int (fMx (fLo q2) (fLo q4))), .val (.int (0 : Int32))] [(.int (0 : Int32))])) (fun _ k => XS.iconst X18.here hx rfl (hb hby at_195) k) ?_
          refine goRetN X18 hx (t := .boolean) Bd.returns (by simp) hlk (hb hby at_196) ?_ (by decide) (by decide)
          rw [e18]
          exfalso
          have t1 := fOv_int (fLo q1) (fHi q1) (fLo q2) (fHi q2) (fLo q3) (fHi q3) (fLo q4) (fHi q4)
          have t2 := fOv_int (fLo q3) (fHi q3) (fLo q4) (fHi q4) (fLo q1) (fHi q1) (fLo q2) (fHi q2)
          have m1 := fMx_int (fLo q1) (fLo q3)
          have m2 := fMx_int (fLo q2) (fLo q4)
          have i1 := fIn_int (fMx (fLo q1) (fLo q3)) (fLo q1) (fHi q1)
          have i2 := fIn_int (fMx (fLo q1) (fLo q3)) (fLo q3) (fHi q3)
          have i3 := fIn_int (fMx (fLo q2) (fLo q4)) (fLo q2) (fHi q2)
          have i4 := fIn_int (fMx (fLo q2) (fLo q4)) (fLo q4) (fHi q4)
          have v1 := lo_hi q1
          have v2 := lo_hi q2
          have v3 := lo_hi q3
          have v4 := lo_hi q4
          simp only [Int32.lt_iff_toInt_lt, Int64.lt_iff_toInt_lt, ← Int32.toInt_inj, ← Int64.toInt_inj, Int32.reduceToInt, Int64.reduceToInt] at  hc131 hc143 hc181 hc188
          omega
      · refine go (B := T18.setTop (mkF m 195 #[.val (.long q1), .second, .val (.long q2), .second, .val (.long q3), .second, .val (.long q4), .second, .val (.int (fLo q1)), .val (.int (fHi q1)), .val (.int (fLo q2)), .val (.int (fHi q2)), .val (.int (fLo q3)), .val (.int (fHi q3)), .val (.int (fLo q4)), .val (.int (fHi q4)), .val (.ref b9), .val (.ref b11), .val (.int (fOv (fLo q1) (fHi q1) (fLo q2) (fHi q2) (fLo q3) (fHi q3) (fLo q4) (fHi q4))), .val (.int (fOv (fLo q3) (fHi q3) (fLo q4) (fHi q4) (fLo q1) (fHi q1) (fLo q2) (fHi q2))), .val (.int (fMx (fLo q1) (fLo q3))), .val (.int (fMx (fLo q2) (fLo q4))), .val (.int (0 : Int32))] [])) (fun _ k => XS.icmpYes X18.here hx rfl (pc0 := 181) (pc' := 195) rfl (hb hby at_181) rfl (feq hc181).2 (by decide) (by decide) k) ?_
        refine go (B := T18.setTop (mkF m 196 #[.val (.long q1), .second, .val (.long q2), .second, .val (.long q3), .second, .val (.long q4), .second, .val (.int (fLo q1)), .val (.int (fHi q1)), .val (.int (fLo q2)), .val (.int (fHi q2)), .val (.int (fLo q3)), .val (.int (fHi q3)), .val (.int (fLo q4)), .val (.int (fHi q4)), .val (.ref b9), .val (.ref b11), .val (.int (fOv (fLo q1) (fHi q1) (fLo q2) (fHi q2) (fLo q3) (fHi q3) (fLo q4) (fHi q4))), .val (.int (fOv (fLo q3) (fHi q3) (fLo q4) (fHi q4) (fLo q1) (fHi q1) (fLo q2) (fHi q2))), .val (.int (fMx (fLo q1) (fLo q3))), .val (.int (fMx (fLo q2) (fLo q4))), .val (.int (0 : Int32))] [(.int (0 : Int32))])) (fun _ k => XS.iconst X18.here hx rfl (hb hby at_195) k) ?_
        refine goRetN X18 hx (t := .boolean) Bd.returns (by simp) hlk (hb hby at_196) ?_ (by decide) (by decide)
        rw [e18]
        exfalso
        have t1 := fOv_int (fLo q1) (fHi q1) (fLo q2) (fHi q2) (fLo q3) (fHi q3) (fLo q4) (fHi q4)
        have t2 := fOv_int (fLo q3) (fHi q3) (fLo q4) (fHi q4) (fLo q1) (fHi q1) (fLo q2) (fHi q2)
        have m1 := fMx_int (fLo q1) (fLo q3)
        have m2 := fMx_int (fLo q2) (fLo q4)
        have i1 := fIn_int (fMx (fLo q1) (fLo q3)) (fLo q1) (fHi q1)
        have i2 := fIn_int (fMx (fLo q1) (fLo q3)) (fLo q3) (fHi q3)
        have i3 := fIn_int (fMx (fLo q2) (fLo q4)) (fLo q2) (fHi q2)
        have i4 := fIn_int (fMx (fLo q2) (fLo q4)) (fLo q4) (fHi q4)
        have v1 := lo_hi q1
        have v2 := lo_hi q2
        have v3 := lo_hi q3
        have v4 := lo_hi q4
        simp only [Int32.lt_iff_toInt_lt, Int64.lt_iff_toInt_lt, ← Int32.toInt_inj, ← Int64.toInt_inj, Int32.reduceToInt, Int64.reduceToInt] at  hc131 hc143 hc181
        omega
    · refine go (B := T18.setTop (mkF m 146 #[.val (.long q1), .second, .val (.long q2), .second, .val (.long q3), .second, .val (.long q4), .second, .val (.int (fLo q1)), .val (.int (fHi q1)), .val (.int (fLo q2)), .val (.int (fHi q2)), .val (.int (fLo q3)), .val (.int (fHi q3)), .val (.int (fLo q4)), .val (.int (fHi q4)), .val (.ref b9), .val (.ref b11), .val (.int (fOv (fLo q1) (fHi q1) (fLo q2) (fHi q2) (fLo q3) (fHi q3) (fLo q4) (fHi q4))), .val (.int (fOv (fLo q3) (fHi q3) (fLo q4) (fHi q4) (fLo q1) (fHi q1) (fLo q2) (fHi q2))), .val (.int (fMx (fLo q1) (fLo q3))), .val (.int (fMx (fLo q2) (fLo q4))), .unset] [])) (fun _ k => XS.ifNo X18.here hx rfl (hb hby at_143) rfl ((if0 _ _).trans (feq hc143).1) k) ?_
      refine go (B := T18.setTop (mkF m 148 #[.val (.long q1), .second, .val (.long q2), .second, .val (.long q3), .second, .val (.long q4), .second, .val (.int (fLo q1)), .val (.int (fHi q1)), .val (.int (fLo q2)), .val (.int (fHi q2)), .val (.int (fLo q3)), .val (.int (fHi q3)), .val (.int (fLo q4)), .val (.int (fHi q4)), .val (.ref b9), .val (.ref b11), .val (.int (fOv (fLo q1) (fHi q1) (fLo q2) (fHi q2) (fLo q3) (fHi q3) (fLo q4) (fHi q4))), .val (.int (fOv (fLo q3) (fHi q3) (fLo q4) (fHi q4) (fLo q1) (fHi q1) (fLo q2) (fHi q2))), .val (.int (fMx (fLo q1) (fLo q3))), .val (.int (fMx (fLo q2) (fLo q4))), .unset] [(.int (fMx (fLo q2) (fLo q4)))])) (fun _ k => XS.iload X18.here hx rfl (hb hby at_146) rfl k) ?_
      refine go (B := T18.setTop (mkF m 150 #[.val (.long q1), .second, .val (.long q2), .second, .val (.long q3), .second, .val (.long q4), .second, .val (.int (fLo q1)), .val (.int (fHi q1)), .val (.int (fLo q2)), .val (.int (fHi q2)), .val (.int (fLo q3)), .val (.int (fHi q3)), .val (.int (fLo q4)), .val (.int (fHi q4)), .val (.ref b9), .val (.ref b11), .val (.int (fOv (fLo q1) (fHi q1) (fLo q2) (fHi q2) (fLo q3) (fHi q3) (fLo q4) (fHi q4))), .val (.int (fOv (fLo q3) (fHi q3) (fLo q4) (fHi q4) (fLo q1) (fHi q1) (fLo q2) (fHi q2))), .val (.int (fMx (fLo q1) (fLo q3))), .val (.int (fMx (fLo q2) (fLo q4))), .unset] [(.int (fLo q2)), (.int (fMx (fLo q2) (fLo q4)))])) (fun _ k => XS.iload X18.here hx rfl (hb hby at_148) rfl k) ?_
      refine go (B := T18.setTop (mkF m 152 #[.val (.long q1), .second, .val (.long q2), .second, .val (.long q3), .second, .val (.long q4), .second, .val (.int (fLo q1)), .val (.int (fHi q1)), .val (.int (fLo q2)), .val (.int (fHi q2)), .val (.int (fLo q3)), .val (.int (fHi q3)), .val (.int (fLo q4)), .val (.int (fHi q4)), .val (.ref b9), .val (.ref b11), .val (.int (fOv (fLo q1) (fHi q1) (fLo q2) (fHi q2) (fLo q3) (fHi q3) (fLo q4) (fHi q4))), .val (.int (fOv (fLo q3) (fHi q3) (fLo q4) (fHi q4) (fLo q1) (fHi q1) (fLo q2) (fHi q2))), .val (.int (fMx (fLo q1) (fLo q3))), .val (.int (fMx (fLo q2) (fLo q4))), .unset] [(.int (fHi q2)), (.int (fLo q2)), (.int (fMx (fLo q2) (fLo q4)))])) (fun _ k => XS.iload X18.here hx rfl (hb hby at_150) rfl k) ?_
      obtain ⟨_, _, ⟨T19, L19, k19, n19⟩, -, X19, ⟨Lc19, hQ19, l19, y19, z19⟩, st19⟩ := Jvm.LawKit.callS X18 hx (y := (⟨"com/example/eel_river/eelriver/space/CellRangeOverlapsPinLaw", "in", "(III)Z"⟩ : MethodName)) hown (mvT hZ (hw _ (List.mem_of_getElem? (i := 48) rfl))) (mvT hZ (hw _ (List.mem_of_getElem? (i := 49) rfl))) (mvT hZ (hw _ (List.mem_of_getElem? (i := 2) rfl))) (mvT hZ (hw _ (List.mem_of_getElem? (i := 50) rfl))) (by decide) (backOf (W := 0) (rm11 l Z a0 hw [] (fMx (fLo q2) (fLo q4)) (fLo q2) (fHi q2) T12.heap n0 ZB) hZ (hw _ (List.mem_of_getElem? (i := 50) rfl)) (hw _ (List.mem_of_getElem? (i := 2) rfl)) (by decide) (by decide)) (g := (mkF m 152 #[.val (.long q1), .second, .val (.long q2), .second, .val (.long q3), .second, .val (.long q4), .second, .val (.int (fLo q1)), .val (.int (fHi q1)), .val (.int (fLo q2)), .val (.int (fHi q2)), .val (.int (fLo q3)), .val (.int (fHi q3)), .val (.int (fLo q4)), .val (.int (fHi q4)), .val (.ref b9), .val (.ref b11), .val (.int (fOv (fLo q1) (fHi q1) (fLo q2) (fHi q2) (fLo q3) (fHi q3) (fLo q4) (fHi q4))), .val (.int (fOv (fLo q3) (fHi q3) (fLo q4) (fHi q4) (fLo q1) (fHi q1) (fLo q2) (fHi q2))), .val (.int (fMx (fLo q1) (fLo q3))), .val (.int (fMx (fLo q2) (fLo q4))), .unset] [(.int (fHi q2)), (.int (fLo q2)), (.int (fMx (fLo q2) (fLo q4)))])) rfl (by rw [hml]; rfl) (argsL := [(.int (fMx (fLo q2) (fLo q4))), (.int (fLo q2)), (.int (fHi q2))]) (rest := []) (lenOf pd__III_Z rfl) rfl (by show 2 * 0 + _ ≤ _; exact Nat.le_of_eq rfl) (hb hby at_152) (fun _ _ => ⟨rfl, e18, (by decide : 2 + 0 ≤ _), (by decide : 8 + 0 ≤ _)⟩)
      dsimp only [Pt.U, Pt.locs, Pt.cells, Pt.slots] at X19 l19 y19 z19 st19 hQ19
      subst l19 y19 z19
      obtain ⟨rfl, N19q, e19⟩ := hQ19
      have N19 := Fr.app N18 N19q
      refine go (B := T19.setTop (mkF m 155 #[.val (.long q1), .second, .val (.long q2), .second, .val (.long q3), .second, .val (.long q4), .second, .val (.int (fLo q1)), .val (.int (fHi q1)), .val (.int (fLo q2)), .val (.int (fHi q2)), .val (.int (fLo q3)), .val (.int (fHi q3)), .val (.int (fLo q4)), .val (.int (fHi q4)), .val (.ref b9), .val (.ref b11), .val (.int (fOv (fLo q1) (fHi q1) (fLo q2) (fHi q2) (fLo q3) (fHi q3) (fLo q4) (fHi q4))), .val (.int (fOv (fLo q3) (fHi q3) (fLo q4) (fHi q4) (fLo q1) (fHi q1) (fLo q2) (fHi q2))), .val (.int (fMx (fLo q1) (fLo q3))), .val (.int (fMx (fLo q2) (fLo q4))), .unset] [(.int (fIn (fMx (fLo q2) (fLo q4)) (fLo q2) (fHi q2)))])) (fun _ k => st19 _ k) ?_
      by_cases hc155 : (fIn (fMx (fLo q2) (fLo q4)) (fLo q2) (fHi q2)) = (0 : Int32)
      · refine go (B := T19.setTop (mkF m 174 #[.val (.long q1), .second, .val (.long q2), .second, .val (.long q3), .second, .val (.long q4), .second, .val (.int (fLo q1)), .val (.int (fHi q1)), .val (.int (fLo q2)), .val (.int (fHi q2)), .val (.int (fLo q3)), .val (.int (fHi q3)), .val (.int (fLo q4)), .val (.int (fHi q4)), .val (.ref b9), .val (.ref b11), .val (.int (fOv (fLo q1) (fHi q1) (fLo q2) (fHi q2) (fLo q3) (fHi q3) (fLo q4) (fHi q4))), .val (.int (fOv (fLo q3) (fHi q3) (fLo q4) (fHi q4) (fLo q1) (fHi q1) (fLo q2) (fHi q2))), .val (.int (fMx (fLo q1) (fLo q3))), .val (.int (fMx (fLo q2) (fLo q4))), .unset] [])) (fun _ k => XS.ifYes X19.here hx rfl (pc0 := 155) (pc' := 174) rfl (hb hby at_155) rfl ((if0 _ _).trans (teq hc155).1) (by decide) (by decide) k) ?_
        refine go (B := T19.setTop (mkF m 175 #[.val (.long q1), .second, .val (.long q2), .second, .val (.long q3), .second, .val (.long q4), .second, .val (.int (fLo q1)), .val (.int (fHi q1)), .val (.int (fLo q2)), .val (.int (fHi q2)), .val (.int (fLo q3)), .val (.int (fHi q3)), .val (.int (fLo q4)), .val (.int (fHi q4)), .val (.ref b9), .val (.ref b11), .val (.int (fOv (fLo q1) (fHi q1) (fLo q2) (fHi q2) (fLo q3) (fHi q3) (fLo q4) (fHi q4))), .val (.int (fOv (fLo q3) (fHi q3) (fLo q4) (fHi q4) (fLo q1) (fHi q1) (fLo q2) (fHi q2))), .val (.int (fMx (fLo q1) (fLo q3))), .val (.int (fMx (fLo q2) (fLo q4))), .unset] [(.int (0 : Int32))])) (fun _ k => XS.iconst X19.here hx rfl (hb hby at_174) k) ?_
        refine go (B := T19.setTop (mkF m 177 #[.val (.long q1), .second, .val (.long q2), .second, .val (.long q3), .second, .val (.long q4), .second, .val (.int (fLo q1)), .val (.int (fHi q1)), .val (.int (fLo q2)), .val (.int (fHi q2)), .val (.int (fLo q3)), .val (.int (fHi q3)), .val (.int (fLo q4)), .val (.int (fHi q4)), .val (.ref b9), .val (.ref b11), .val (.int (fOv (fLo q1) (fHi q1) (fLo q2) (fHi q2) (fLo q3) (fHi q3) (fLo q4) (fHi q4))), .val (.int (fOv (fLo q3) (fHi q3) (fLo q4) (fHi q4) (fLo q1) (fHi q1) (fLo q2) (fHi q2))), .val (.int (fMx (fLo q1) (fLo q3))), .val (.int (fMx (fLo q2) (fLo q4))), .val (.int (0 : Int32))] [])) (fun _ k => XS.istore X19.here hx rfl (hb hby at_175) rfl (l' := #[.val (.long q1), .second, .val (.long q2), .second, .val (.long q3), .second, .val (.long q4), .second, .val (.int (fLo q1)), .val (.int (fHi q1)), .val (.int (fLo q2)), .val (.int (fHi q2)), .val (.int (fLo q3)), .val (.int (fHi q3)), .val (.int (fLo q4)), .val (.int (fHi q4)), .val (.ref b9), .val (.ref b11), .val (.int (fOv (fLo q1) (fHi q1) (fLo q2) (fHi q2) (fLo q3) (fHi q3) (fLo q4) (fHi q4))), .val (.int (fOv (fLo q3) (fHi q3) (fLo q4) (fHi q4) (fLo q1) (fHi q1) (fLo q2) (fHi q2))), .val (.int (fMx (fLo q1) (fLo q3))), .val (.int (fMx (fLo q2) (fLo q4))), .val (.int (0 : Int32))]) rfl k) ?_
        refine go (B := T19.setTop (mkF m 179 #[.val (.long q1), .second, .val (.long q2), .second, .val (.long q3), .second, .val (.long q4), .second, .val (.int (fLo q1)), .val (.int (fHi q1)), .val (.int (fLo q2)), .val (.int (fHi q2)), .val (.int (fLo q3)), .val (.int (fHi q3)), .val (.int (fLo q4)), .val (.int (fHi q4)), .val (.ref b9), .val (.ref b11), .val (.int (fOv (fLo q1) (fHi q1) (fLo q2) (fHi q2) (fLo q3) (fHi q3) (fLo q4) (fHi q4))), .val (.int (fOv (fLo q3) (fHi q3) (fLo q4) (fHi q4) (fLo q1) (fHi q1) (fLo q2) (fHi q2))), .val (.int (fMx (fLo q1) (fLo q3))), .val (.int (fMx (fLo q2) (fLo q4))), .val (.int (0 : Int32))] [(.int (fOv (fLo q1) (fHi q1) (fLo q2) (fHi q2) (fLo q3) (fHi q3) (fLo q4) (fHi q4)))])) (fun _ k => XS.iload X19.here hx rfl (hb hby at_177) rfl k) ?_
        refine go (B := T19.setTop (mkF m 181 #[.val (.long q1), .second, .val (.long q2), .second, .val (.long q3), .second, .val (.long q4), .second, .val (.int (fLo q1)), .val (.int (fHi q1)), .val (.int (fLo q2)), .val (.int (fHi q2)), .val (.int (fLo q3)), .val (.int (fHi q3)), .val (.int (fLo q4)), .val (.int (fHi q4)), .val (.ref b9), .val (.ref b11), .val (.int (fOv (fLo q1) (fHi q1) (fLo q2) (fHi q2) (fLo q3) (fHi q3) (fLo q4) (fHi q4))), .val (.int (fOv (fLo q3) (fHi q3) (fLo q4) (fHi q4) (fLo q1) (fHi q1) (fLo q2) (fHi q2))), .val (.int (fMx (fLo q1) (fLo q3))), .val (.int (fMx (fLo q2) (fLo q4))), .val (.int (0 : Int32))] [(.int (0 : Int32)), (.int (fOv (fLo q1) (fHi q1) (fLo q2) (fHi q2) (fLo q3) (fHi q3) (fLo q4) (fHi q4)))])) (fun _ k => XS.iload X19.here hx rfl (hb hby at_179) rfl k) ?_
        by_cases hc181 : (fOv (fLo q1) (fHi q1) (fLo q2) (fHi q2) (fLo q3) (fHi q3) (fLo q4) (fHi q4)) = (0 : Int32)
        · refine go (B := T19.setTop (mkF m 184 #[.val (.long q1), .second, .val (.long q2), .second, .val (.long q3), .second, .val (.long q4), .second, .val (.int (fLo q1)), .val (.int (fHi q1)), .val (.int (fLo q2)), .val (.int (fHi q2)), .val (.int (fLo q3)), .val (.int (fHi q3)), .val (.int (fLo q4)), .val (.int (fHi q4)), .val (.ref b9), .val (.ref b11), .val (.int (fOv (fLo q1) (fHi q1) (fLo q2) (fHi q2) (fLo q3) (fHi q3) (fLo q4) (fHi q4))), .val (.int (fOv (fLo q3) (fHi q3) (fLo q4) (fHi q4) (fLo q1) (fHi q1) (fLo q2) (fHi q2))), .val (.int (fMx (fLo q1) (fLo q3))), .val (.int (fMx (fLo q2) (fLo q4))), .val (.int (0 : Int32))] [])) (fun _ k => XS.icmpNo X19.here hx rfl (hb hby at_181) rfl (teq hc181).2 k) ?_
          refine go (B := T19.setTop (mkF m 186 #[.val (.long q1), .second, .val (.long q2), .second, .val (.long q3), .second, .val (.long q4), .second, .val (.int (fLo q1)), .val (.int (fHi q1)), .val (.int (fLo q2)), .val (.int (fHi q2)), .val (.int (fLo q3)), .val (.int (fHi q3)), .val (.int (fLo q4)), .val (.int (fHi q4)), .val (.ref b9), .val (.ref b11), .val (.int (fOv (fLo q1) (fHi q1) (fLo q2) (fHi q2) (fLo q3) (fHi q3) (fLo q4) (fHi q4))), .val (.int (fOv (fLo q3) (fHi q3) (fLo q4) (fHi q4) (fLo q1) (fHi q1) (fLo q2) (fHi q2))), .val (.int (fMx (fLo q1) (fLo q3))), .val (.int (fMx (fLo q2) (fLo q4))), .val (.int (0 : Int32))] [(.int (fOv (fLo q3) (fHi q3) (fLo q4) (fHi q4) (fLo q1) (fHi q1) (fLo q2) (fHi q2)))])) (fun _ k => XS.iload X19.here hx rfl (hb hby at_184) rfl k) ?_
          refine go (B := T19.setTop (mkF m 188 #[.val (.long q1), .second, .val (.long q2), .second, .val (.long q3), .second, .val (.long q4), .second, .val (.int (fLo q1)), .val (.int (fHi q1)), .val (.int (fLo q2)), .val (.int (fHi q2)), .val (.int (fLo q3)), .val (.int (fHi q3)), .val (.int (fLo q4)), .val (.int (fHi q4)), .val (.ref b9), .val (.ref b11), .val (.int (fOv (fLo q1) (fHi q1) (fLo q2) (fHi q2) (fLo q3) (fHi q3) (fLo q4) (fHi q4))), .val (.int (fOv (fLo q3) (fHi q3) (fLo q4) (fHi q4) (fLo q1) (fHi q1) (fLo q2) (fHi q2))), .val (.int (fMx (fLo q1) (fLo q3))), .val (.int (fMx (fLo q2) (fLo q4))), .val (.int (0 : Int32))] [(.int (0 : Int32)), (.int (fOv (fLo q3) (fHi q3) (fLo q4) (fHi q4) (fLo q1) (fHi q1) (fLo q2) (fHi q2)))])) (fun _ k => XS.iload X19.here hx rfl (hb hby at_186) rfl k) ?_
          by_cases hc188 : (fOv (fLo q3) (fHi q3) (fLo q4) (fHi q4) (fLo q1) (fHi q1) (fLo q2) (fHi q2)) = (0 : Int32)
          · refine go (B := T19.setTop (mkF m 191 #[.val (.long q1), .second, .val (.long q2), .second, .val (.long q3), .second, .val (.long q4), .second, .val (.int (fLo q1)), .val (.int (fHi q1)), .val (.int (fLo q2)), .val (.int (fHi q2)), .val (.int (fLo q3)), .val (.int (fHi q3)), .val (.int (fLo q4)), .val (.int (fHi q4)), .val (.ref b9), .val (.ref b11), .val (.int (fOv (fLo q1) (fHi q1) (fLo q2) (fHi q2) (fLo q3) (fHi q3) (fLo q4) (fHi q4))), .val (.int (fOv (fLo q3) (fHi q3) (fLo q4) (fHi q4) (fLo q1) (fHi q1) (fLo q2) (fHi q2))), .val (.int (fMx (fLo q1) (fLo q3))), .val (.int (fMx (fLo q2) (fLo q4))), .val (.int (0 : Int32))] [])) (fun _ k => XS.icmpNo X19.here hx rfl (hb hby at_188) rfl (teq hc188).2 k) ?_
            refine go (B := T19.setTop (mkF m 192 #[.val (.long q1), .second, .val (.long q2), .second, .val (.long q3), .second, .val (.long q4), .second, .val (.int (fLo q1)), .val (.int (fHi q1)), .val (.int (fLo q2)), .val (.int (fHi q2)), .val (.int (fLo q3)), .val (.int (fHi q3)), .val (.int (fLo q4)), .val (.int (fHi q4)), .val (.ref b9), .val (.ref b11), .val (.int (fOv (fLo q1) (fHi q1) (fLo q2) (fHi q2) (fLo q3) (fHi q3) (fLo q4) (fHi q4))), .val (.int (fOv (fLo q3) (fHi q3) (fLo q4) (fHi q4) (fLo q1) (fHi q1) (fLo q2) (fHi q2))), .val (.int (fMx (fLo q1) (fLo q3))), .val (.int (fMx (fLo q2) (fLo q4))), .val (.int (0 : Int32))] [(.int (1 : Int32))])) (fun _ k => XS.iconst X19.here hx rfl (hb hby at_191) k) ?_
            refine go (B := T19.setTop (mkF m 196 #[.val (.long q1), .second, .val (.long q2), .second, .val (.long q3), .second, .val (.long q4), .second, .val (.int (fLo q1)), .val (.int (fHi q1)), .val (.int (fLo q2)), .val (.int (fHi q2)), .val (.int (fLo q3)), .val (.int (fHi q3)), .val (.int (fLo q4)), .val (.int (fHi q4)), .val (.ref b9), .val (.ref b11), .val (.int (fOv (fLo q1) (fHi q1) (fLo q2) (fHi q2) (fLo q3) (fHi q3) (fLo q4) (fHi q4))), .val (.int (fOv (fLo q3) (fHi q3) (fLo q4) (fHi q4) (fLo q1) (fHi q1) (fLo q2) (fHi q2))), .val (.int (fMx (fLo q1) (fLo q3))), .val (.int (fMx (fLo q2) (fLo q4))), .val (.int (0 : Int32))] [(.int (1 : Int32))])) (fun _ k => XS.goto X19.here hx rfl (pc0 := 192) (pc' := 196) rfl (hb hby at_192) (by decide) (by decide) k) ?_
            refine goRetN X19 hx (t := .boolean) Bd.returns (by simp) hlk (hb hby at_196) ?_ (by decide) (by decide)
            rw [e19]
            exact ⟨rfl, N19⟩
          · refine go (B := T19.setTop (mkF m 195 #[.val (.long q1), .second, .val (.long q2), .second, .val (.long q3), .second, .val (.long q4), .second, .val (.int (fLo q1)), .val (.int (fHi q1)), .val (.int (fLo q2)), .val (.int (fHi q2)), .val (.int (fLo q3)), .val (.int (fHi q3)), .val (.int (fLo q4)), .val (.int (fHi q4)), .val (.ref b9), .val (.ref b11), .val (.int (fOv (fLo q1) (fHi q1) (fLo q2) (fHi q2) (fLo q3) (fHi q3) (fLo q4) (fHi q4))), .val (.int (fOv (fLo q3) (fHi q3) (fLo q4) (fHi q4) (fLo q1) (fHi q1) (fLo q2) (fHi q2))), .val (.int (fMx (fLo q1) (fLo q3))), .val (.int (fMx (fLo q2) (fLo q4))), .val (.int (0 : Int32))] [])) (fun _ k => XS.icmpYes X19.here hx rfl (pc0 := 188) (pc' := 195) rfl (hb hby at_188) rfl (feq hc188).2 (by decide) (by decide) k) ?_
            refine go (B := T19.setTop (mkF m 196 #[.val (.long q1), .second, .val (.long q2), .second, .val (.long q3), .second, .val (.long q4), .second, .val (.int (fLo q1)), .val (.int (fHi q1)), .val (.int (fLo q2)), .val (.int (fHi q2)), .val (.int (fLo q3)), .val (.int (fHi q3)), .val (.int (fLo q4)), .val (.int (fHi q4)), .val (.ref b9), .val (.ref b11), .val (.int (fOv (fLo q1) (fHi q1) (fLo q2) (fHi q2) (fLo q3) (fHi q3) (fLo q4) (fHi q4))), .val (.int (fOv (fLo q3) (fHi q3) (fLo q4) (fHi q4) (fLo q1) (fHi q1) (fLo q2) (fHi q2))), .val (.int (fMx (fLo q1) (fLo q3))), .val (.int (fMx (fLo q2) (fLo q4))), .val (.int (0 : Int32))] [(.int (0 : Int32))])) (fun _ k => XS.iconst X19.here hx rfl (hb hby at_195) k) ?_
            refine goRetN X19 hx (t := .boolean) Bd.returns (by simp) hlk (hb hby at_196) ?_ (by decide) (by decide)
            rw [e19]
            exfalso
            have t1 := fOv_int (fLo q1) (fHi q1) (fLo q2) (fHi q2) (fLo q3) (fHi q3) (fLo q4) (fHi q4)
            have t2 := fOv_int (fLo q3) (fHi q3) (fLo q4) (fHi q4) (fLo q1) (fHi q1) (fLo q2) (fHi q2)
            have m1 := fMx_int (fLo q1) (fLo q3)
            have m2 := fMx_int (fLo q2) (fLo q4)
            have i1 := fIn_int (fMx (fLo q1) (fLo q3)) (fLo q1) (fHi q1)
            have i2 := fIn_int (fMx (fLo q1) (fLo q3)) (fLo q3) (fHi q3)
            have i3 := fIn_int (fMx (fLo q2) (fLo q4)) (fLo q2) (fHi q2)
            have i4 := fIn_int (fMx (fLo q2) (fLo q4)) (fLo q4) (fHi q4)
            have v1 := lo_hi q1
            have v2 := lo_hi q2
            have v3 := lo_hi q3
            have v4 := lo_hi q4
            simp only [Int32.lt_iff_toInt_lt, Int64.lt_iff_toInt_lt, ← Int32.toInt_inj, ← Int64.toInt_inj, Int32.reduceToInt, Int64.reduceToInt] at  hc131 hc143 hc155 hc181 hc188
            omega
        · refine go (B := T19.setTop (mkF m 195 #[.val (.long q1), .second, .val (.long q2), .second, .val (.long q3), .second, .val (.long q4), .second, .val (.int (fLo q1)), .val (.int (fHi q1)), .val (.int (fLo q2)), .val (.int (fHi q2)), .val (.int (fLo q3)), .val (.int (fHi q3)), .val (.int (fLo q4)), .val (.int (fHi q4)), .val (.ref b9), .val (.ref b11), .val (.int (fOv (fLo q1) (fHi q1) (fLo q2) (fHi q2) (fLo q3) (fHi q3) (fLo q4) (fHi q4))), .val (.int (fOv (fLo q3) (fHi q3) (fLo q4) (fHi q4) (fLo q1) (fHi q1) (fLo q2) (fHi q2))), .val (.int (fMx (fLo q1) (fLo q3))), .val (.int (fMx (fLo q2) (fLo q4))), .val (.int (0 : Int32))] [])) (fun _ k => XS.icmpYes X19.here hx rfl (pc0 := 181) (pc' := 195) rfl (hb hby at_181) rfl (feq hc181).2 (by decide) (by decide) k) ?_
          refine go (B := T19.setTop (mkF m 196 #[.val (.long q1), .second, .val (.long q2), .second, .val (.long q3), .second, .val (.long q4), .second, .val (.int (fLo q1)), .val (.int (fHi q1)), .val (.int (fLo q2)), .val (.int (fHi q2)), .val (.int (fLo q3)), .val (.int (fHi q3)), .val (.int (fLo q4)), .val (.int (fHi q4)), .val (.ref b9), .val (.ref b11), .val (.int (fOv (fLo q1) (fHi q1) (fLo q2) (fHi q2) (fLo q3) (fHi q3) (fLo q4) (fHi q4))), .val (.int (fOv (fLo q3) (fHi q3) (fLo q4) (fHi q4) (fLo q1) (fHi q1) (fLo q2) (fHi q2))), .val (.int (fMx (fLo q1) (fLo q3))), .val (.int (fMx (fLo q2) (fLo q4))), .val (.int (0 : Int32))] [(.int (0 : Int32))])) (fun _ k => XS.iconst X19.here hx rfl (hb hby at_195) k) ?_
          refine goRetN X19 hx (t := .boolean) Bd.returns (by simp) hlk (hb hby at_196) ?_ (by decide) (by decide)
          rw [e19]
          exfalso
          have t1 := fOv_int (fLo q1) (fHi q1) (fLo q2) (fHi q2) (fLo q3) (fHi q3) (fLo q4) (fHi q4)
          have t2 := fOv_int (fLo q3) (fHi q3) (fLo q4) (fHi q4) (fLo q1) (fHi q1) (fLo q2) (fHi q2)
          have m1 := fMx_int (fLo q1) (fLo q3)
          have m2 := fMx_int (fLo q2) (fLo q4)
          have i1 := fIn_int (fMx (fLo q1) (fLo q3)) (fLo q1) (fHi q1)
          have i2 := fIn_int (fMx (fLo q1) (fLo q3)) (fLo q3) (fHi q3)
          have i3 := fIn_int (fMx (fLo q2) (fLo q4)) (fLo q2) (fHi q2)
          have i4 := fIn_int (fMx (fLo q2) (fLo q4)) (fLo q4) (fHi q4)
          have v1 := lo_hi q1
          have v2 := lo_hi q2
          have v3 := lo_hi q3
          have v4 := lo_hi q4
          simp only [Int32.lt_iff_toInt_lt, Int64.lt_iff_toInt_lt, ← Int32.toInt_inj, ← Int64.toInt_inj, Int32.reduceToInt, Int64.reduceToInt] at  hc131 hc143 hc155 hc181
          omega
      · refine go (B := T19.setTop (mkF m 158 #[.val (.long q1), .second, .val (.long q2), .second, .val (.long q3), .second, .val (.long q4), .second, .val (.int (fLo q1)), .val (.int (fHi q1)), .val (.int (fLo q2)), .val (.int (fHi q2)), .val (.int (fLo q3)), .val (.int (fHi q3)), .val (.int (fLo q4)), .val (.int (fHi q4)), .val (.ref b9), .val (.ref b11), .val (.int (fOv (fLo q1) (fHi q1) (fLo q2) (fHi q2) (fLo q3) (fHi q3) (fLo q4) (fHi q4))), .val (.int (fOv (fLo q3) (fHi q3) (fLo q4) (fHi q4) (fLo q1) (fHi q1) (fLo q2) (fHi q2))), .val (.int (fMx (fLo q1) (fLo q3))), .val (.int (fMx (fLo q2) (fLo q4))), .unset] [])) (fun _ k => XS.ifNo X19.here hx rfl (hb hby at_155) rfl ((if0 _ _).trans (feq hc155).1) k) ?_
        refine go (B := T19.setTop (mkF m 160 #[.val (.long q1), .second, .val (.long q2), .second, .val (.long q3), .second, .val (.long q4), .second, .val (.int (fLo q1)), .val (.int (fHi q1)), .val (.int (fLo q2)), .val (.int (fHi q2)), .val (.int (fLo q3)), .val (.int (fHi q3)), .val (.int (fLo q4)), .val (.int (fHi q4)), .val (.ref b9), .val (.ref b11), .val (.int (fOv (fLo q1) (fHi q1) (fLo q2) (fHi q2) (fLo q3) (fHi q3) (fLo q4) (fHi q4))), .val (.int (fOv (fLo q3) (fHi q3) (fLo q4) (fHi q4) (fLo q1) (fHi q1) (fLo q2) (fHi q2))), .val (.int (fMx (fLo q1) (fLo q3))), .val (.int (fMx (fLo q2) (fLo q4))), .unset] [(.int (fMx (fLo q2) (fLo q4)))])) (fun _ k => XS.iload X19.here hx rfl (hb hby at_158) rfl k) ?_
        refine go (B := T19.setTop (mkF m 162 #[.val (.long q1), .second, .val (.long q2), .second, .val (.long q3), .second, .val (.long q4), .second, .val (.int (fLo q1)), .val (.int (fHi q1)), .val (.int (fLo q2)), .val (.int (fHi q2)), .val (.int (fLo q3)), .val (.int (fHi q3)), .val (.int (fLo q4)), .val (.int (fHi q4)), .val (.ref b9), .val (.ref b11), .val (.int (fOv (fLo q1) (fHi q1) (fLo q2) (fHi q2) (fLo q3) (fHi q3) (fLo q4) (fHi q4))), .val (.int (fOv (fLo q3) (fHi q3) (fLo q4) (fHi q4) (fLo q1) (fHi q1) (fLo q2) (fHi q2))), .val (.int (fMx (fLo q1) (fLo q3))), .val (.int (fMx (fLo q2) (fLo q4))), .unset] [(.int (fLo q4)), (.int (fMx (fLo q2) (fLo q4)))])) (fun _ k => XS.iload X19.here hx rfl (hb hby at_160) rfl k) ?_
        refine go (B := T19.setTop (mkF m 164 #[.val (.long q1), .second, .val (.long q2), .second, .val (.long q3), .second, .val (.long q4), .second, .val (.int (fLo q1)), .val (.int (fHi q1)), .val (.int (fLo q2)), .val (.int (fHi q2)), .val (.int (fLo q3)), .val (.int (fHi q3)), .val (.int (fLo q4)), .val (.int (fHi q4)), .val (.ref b9), .val (.ref b11), .val (.int (fOv (fLo q1) (fHi q1) (fLo q2) (fHi q2) (fLo q3) (fHi q3) (fLo q4) (fHi q4))), .val (.int (fOv (fLo q3) (fHi q3) (fLo q4) (fHi q4) (fLo q1) (fHi q1) (fLo q2) (fHi q2))), .val (.int (fMx (fLo q1) (fLo q3))), .val (.int (fMx (fLo q2) (fLo q4))), .unset] [(.int (fHi q4)), (.int (fLo q4)), (.int (fMx (fLo q2) (fLo q4)))])) (fun _ k => XS.iload X19.here hx rfl (hb hby at_162) rfl k) ?_
        obtain ⟨_, _, ⟨T20, L20, k20, n20⟩, -, X20, ⟨Lc20, hQ20, l20, y20, z20⟩, st20⟩ := Jvm.LawKit.callS X19 hx (y := (⟨"com/example/eel_river/eelriver/space/CellRangeOverlapsPinLaw", "in", "(III)Z"⟩ : MethodName)) hown (mvT hZ (hw _ (List.mem_of_getElem? (i := 48) rfl))) (mvT hZ (hw _ (List.mem_of_getElem? (i := 49) rfl))) (mvT hZ (hw _ (List.mem_of_getElem? (i := 2) rfl))) (mvT hZ (hw _ (List.mem_of_getElem? (i := 50) rfl))) (by decide) (backOf (W := 0) (rm11 l Z a0 hw [] (fMx (fLo q2) (fLo q4)) (fLo q4) (fHi q4) T12.heap n0 ZB) hZ (hw _ (List.mem_of_getElem? (i := 50) rfl)) (hw _ (List.mem_of_getElem? (i := 2) rfl)) (by decide) (by decide)) (g := (mkF m 164 #[.val (.long q1), .second, .val (.long q2), .second, .val (.long q3), .second, .val (.long q4), .second, .val (.int (fLo q1)), .val (.int (fHi q1)), .val (.int (fLo q2)), .val (.int (fHi q2)), .val (.int (fLo q3)), .val (.int (fHi q3)), .val (.int (fLo q4)), .val (.int (fHi q4)), .val (.ref b9), .val (.ref b11), .val (.int (fOv (fLo q1) (fHi q1) (fLo q2) (fHi q2) (fLo q3) (fHi q3) (fLo q4) (fHi q4))), .val (.int (fOv (fLo q3) (fHi q3) (fLo q4) (fHi q4) (fLo q1) (fHi q1) (fLo q2) (fHi q2))), .val (.int (fMx (fLo q1) (fLo q3))), .val (.int (fMx (fLo q2) (fLo q4))), .unset] [(.int (fHi q4)), (.int (fLo q4)), (.int (fMx (fLo q2) (fLo q4)))])) rfl (by rw [hml]; rfl) (argsL := [(.int (fMx (fLo q2) (fLo q4))), (.int (fLo q4)), (.int (fHi q4))]) (rest := []) (lenOf pd__III_Z rfl) rfl (by show 2 * 0 + _ ≤ _; exact Nat.le_of_eq rfl) (hb hby at_164) (fun _ _ => ⟨rfl, e19, (by decide : 2 + 0 ≤ _), (by decide : 8 + 0 ≤ _)⟩)
        dsimp only [Pt.U, Pt.locs, Pt.cells, Pt.slots] at X20 l20 y20 z20 st20 hQ20
        subst l20 y20 z20
        obtain ⟨rfl, N20q, e20⟩ := hQ20
        have N20 := Fr.app N19 N20q
        refine go (B := T20.setTop (mkF m 167 #[.val (.long q1), .second, .val (.long q2), .second, .val (.long q3), .second, .val (.long q4), .second, .val (.int (fLo q1)), .val (.int (fHi q1)), .val (.int (fLo q2)), .val (.int (fHi q2)), .val (.int (fLo q3)), .val (.int (fHi q3)), .val (.int (fLo q4)), .val (.int (fHi q4)), .val (.ref b9), .val (.ref b11), .val (.int (fOv (fLo q1) (fHi q1) (fLo q2) (fHi q2) (fLo q3) (fHi q3) (fLo q4) (fHi q4))), .val (.int (fOv (fLo q3) (fHi q3) (fLo q4) (fHi q4) (fLo q1) (fHi q1) (fLo q2) (fHi q2))), .val (.int (fMx (fLo q1) (fLo q3))), .val (.int (fMx (fLo q2) (fLo q4))), .unset] [(.int (fIn (fMx (fLo q2) (fLo q4)) (fLo q4) (fHi q4)))])) (fun _ k => st20 _ k) ?_
        by_cases hc167 : (fIn (fMx (fLo q2) (fLo q4)) (fLo q4) (fHi q4)) = (0 : Int32)
        · refine go (B := T20.setTop (mkF m 174 #[.val (.long q1), .second, .val (.long q2), .second, .val (.long q3), .second, .val (.long q4), .second, .val (.int (fLo q1)), .val (.int (fHi q1)), .val (.int (fLo q2)), .val (.int (fHi q2)), .val (.int (fLo q3)), .val (.int (fHi q3)), .val (.int (fLo q4)), .val (.int (fHi q4)), .val (.ref b9), .val (.ref b11), .val (.int (fOv (fLo q1) (fHi q1) (fLo q2) (fHi q2) (fLo q3) (fHi q3) (fLo q4) (fHi q4))), .val (.int (fOv (fLo q3) (fHi q3) (fLo q4) (fHi q4) (fLo q1) (fHi q1) (fLo q2) (fHi q2))), .val (.int (fMx (fLo q1) (fLo q3))), .val (.int (fMx (fLo q2) (fLo q4))), .unset] [])) (fun _ k => XS.ifYes X20.here hx rfl (pc0 := 167) (pc' := 174) rfl (hb hby at_167) rfl ((if0 _ _).trans (teq hc167).1) (by decide) (by decide) k) ?_
          refine go (B := T20.setTop (mkF m 175 #[.val (.long q1), .second, .val (.long q2), .second, .val (.long q3), .second, .val (.long q4), .second, .val (.int (fLo q1)), .val (.int (fHi q1)), .val (.int (fLo q2)), .val (.int (fHi q2)), .val (.int (fLo q3)), .val (.int (fHi q3)), .val (.int (fLo q4)), .val (.int (fHi q4)), .val (.ref b9), .val (.ref b11), .val (.int (fOv (fLo q1) (fHi q1) (fLo q2) (fHi q2) (fLo q3) (fHi q3) (fLo q4) (fHi q4))), .val (.int (fOv (fLo q3) (fHi q3) (fLo q4) (fHi q4) (fLo q1) (fHi q1) (fLo q2) (fHi q2))), .val (.int (fMx (fLo q1) (fLo q3))), .val (.int (fMx (fLo q2) (fLo q4))), .unset] [(.int (0 : Int32))])) (fun _ k => XS.iconst X20.here hx rfl (hb hby at_174) k) ?_
          refine go (B := T20.setTop (mkF m 177 #[.val (.long q1), .second, .val (.long q2), .second, .val (.long q3), .second, .val (.long q4), .second, .val (.int (fLo q1)), .val (.int (fHi q1)), .val (.int (fLo q2)), .val (.int (fHi q2)), .val (.int (fLo q3)), .val (.int (fHi q3)), .val (.int (fLo q4)), .val (.int (fHi q4)), .val (.ref b9), .val (.ref b11), .val (.int (fOv (fLo q1) (fHi q1) (fLo q2) (fHi q2) (fLo q3) (fHi q3) (fLo q4) (fHi q4))), .val (.int (fOv (fLo q3) (fHi q3) (fLo q4) (fHi q4) (fLo q1) (fHi q1) (fLo q2) (fHi q2))), .val (.int (fMx (fLo q1) (fLo q3))), .val (.int (fMx (fLo q2) (fLo q4))), .val (.int (0 : Int32))] [])) (fun _ k => XS.istore X20.here hx rfl (hb hby at_175) rfl (l' := #[.val (.long q1), .second, .val (.long q2), .second, .val (.long q3), .second, .val (.long q4), .second, .val (.int (fLo q1)), .val (.int (fHi q1)), .val (.int (fLo q2)), .val (.int (fHi q2)), .val (.int (fLo q3)), .val (.int (fHi q3)), .val (.int (fLo q4)), .val (.int (fHi q4)), .val (.ref b9), .val (.ref b11), .val (.int (fOv (fLo q1) (fHi q1) (fLo q2) (fHi q2) (fLo q3) (fHi q3) (fLo q4) (fHi q4))), .val (.int (fOv (fLo q3) (fHi q3) (fLo q4) (fHi q4) (fLo q1) (fHi q1) (fLo q2) (fHi q2))), .val (.int (fMx (fLo q1) (fLo q3))), .val (.int (fMx (fLo q2) (fLo q4))), .val (.int (0 : Int32))]) rfl k) ?_
          refine go (B := T20.setTop (mkF m 179 #[.val (.long q1), .second, .val (.long q2), .second, .val (.long q3), .second, .val (.long q4), .second, .val (.int (fLo q1)), .val (.int (fHi q1)), .val (.int (fLo q2)), .val (.int (fHi q2)), .val (.int (fLo q3)), .val (.int (fHi q3)), .val (.int (fLo q4)), .val (.int (fHi q4)), .val (.ref b9), .val (.ref b11), .val (.int (fOv (fLo q1) (fHi q1) (fLo q2) (fHi q2) (fLo q3) (fHi q3) (fLo q4) (fHi q4))), .val (.int (fOv (fLo q3) (fHi q3) (fLo q4) (fHi q4) (fLo q1) (fHi q1) (fLo q2) (fHi q2))), .val (.int (fMx (fLo q1) (fLo q3))), .val (.int (fMx (fLo q2) (fLo q4))), .val (.int (0 : Int32))] [(.int (fOv (fLo q1) (fHi q1) (fLo q2) (fHi q2) (fLo q3) (fHi q3) (fLo q4) (fHi q4)))])) (fun _ k => XS.iload X20.here hx rfl (hb hby at_177) rfl k) ?_
          refine go (B := T20.setTop (mkF m 181 #[.val (.long q1), .second, .val (.long q2), .second, .val (.long q3), .second, .val (.long q4), .second, .val (.int (fLo q1)), .val (.int (fHi q1)), .val (.int (fLo q2)), .val (.int (fHi q2)), .val (.int (fLo q3)), .val (.int (fHi q3)), .val (.int (fLo q4)), .val (.int (fHi q4)), .val (.ref b9), .val (.ref b11), .val (.int (fOv (fLo q1) (fHi q1) (fLo q2) (fHi q2) (fLo q3) (fHi q3) (fLo q4) (fHi q4))), .val (.int (fOv (fLo q3) (fHi q3) (fLo q4) (fHi q4) (fLo q1) (fHi q1) (fLo q2) (fHi q2))), .val (.int (fMx (fLo q1) (fLo q3))), .val (.int (fMx (fLo q2) (fLo q4))), .val (.int (0 : Int32))] [(.int (0 : Int32)), (.int (fOv (fLo q1) (fHi q1) (fLo q2) (fHi q2) (fLo q3) (fHi q3) (fLo q4) (fHi q4)))])) (fun _ k => XS.iload X20.here hx rfl (hb hby at_179) rfl k) ?_
          by_cases hc181 : (fOv (fLo q1) (fHi q1) (fLo q2) (fHi q2) (fLo q3) (fHi q3) (fLo q4) (fHi q4)) = (0 : Int32)
          · refine go (B := T20.setTop (mkF m 184 #[.val (.long q1), .second, .val (.long q2), .second, .val (.long q3), .second, .val (.long q4), .second, .val (.int (fLo q1)), .val (.int (fHi q1)), .val (.int (fLo q2)), .val (.int (fHi q2)), .val (.int (fLo q3)), .val (.int (fHi q3)), .val (.int (fLo q4)), .val (.int (fHi q4)), .val (.ref b9), .val (.ref b11), .val (.int (fOv (fLo q1) (fHi q1) (fLo q2) (fHi q2) (fLo q3) (fHi q3) (fLo q4) (fHi q4))), .val (.int (fOv (fLo q3) (fHi q3) (fLo q4) (fHi q4) (fLo q1) (fHi q1) (fLo q2) (fHi q2))), .val (.int (fMx (fLo q1) (fLo q3))), .val (.int (fMx (fLo q2) (fLo q4))), .val (.int (0 : Int32))] [])) (fun _ k => XS.icmpNo X20.here hx rfl (hb hby at_181) rfl (teq hc181).2 k) ?_
            refine go (B := T20.setTop (mkF m 186 #[.val (.long q1), .second, .val (.long q2), .second, .val (.long q3), .second, .val (.long q4), .second, .val (.int (fLo q1)), .val (.int (fHi q1)), .val (.int (fLo q2)), .val (.int (fHi q2)), .val (.int (fLo q3)), .val (.int (fHi q3)), .val (.int (fLo q4)), .val (.int (fHi q4)), .val (.ref b9), .val (.ref b11), .val (.int (fOv (fLo q1) (fHi q1) (fLo q2) (fHi q2) (fLo q3) (fHi q3) (fLo q4) (fHi q4))), .val (.int (fOv (fLo q3) (fHi q3) (fLo q4) (fHi q4) (fLo q1) (fHi q1) (fLo q2) (fHi q2))), .val (.int (fMx (fLo q1) (fLo q3))), .val (.int (fMx (fLo q2) (fLo q4))), .val (.int (0 : Int32))] [(.int (fOv (fLo q3) (fHi q3) (fLo q4) (fHi q4) (fLo q1) (fHi q1) (fLo q2) (fHi q2)))])) (fun _ k => XS.iload X20.here hx rfl (hb hby at_184) rfl k) ?_
            refine go (B := T20.setTop (mkF m 188 #[.val (.long q1), .second, .val (.long q2), .second, .val (.long q3), .second, .val (.long q4), .second, .val (.int (fLo q1)), .val (.int (fHi q1)), .val (.int (fLo q2)), .val (.int (fHi q2)), .val (.int (fLo q3)), .val (.int (fHi q3)), .val (.int (fLo q4)), .val (.int (fHi q4)), .val (.ref b9), .val (.ref b11), .val (.int (fOv (fLo q1) (fHi q1) (fLo q2) (fHi q2) (fLo q3) (fHi q3) (fLo q4) (fHi q4))), .val (.int (fOv (fLo q3) (fHi q3) (fLo q4) (fHi q4) (fLo q1) (fHi q1) (fLo q2) (fHi q2))), .val (.int (fMx (fLo q1) (fLo q3))), .val (.int (fMx (fLo q2) (fLo q4))), .val (.int (0 : Int32))] [(.int (0 : Int32)), (.int (fOv (fLo q3) (fHi q3) (fLo q4) (fHi q4) (fLo q1) (fHi q1) (fLo q2) (fHi q2)))])) (fun _ k => XS.iload X20.here hx rfl (hb hby at_186) rfl k) ?_
            by_cases hc188 : (fOv (fLo q3) (fHi q3) (fLo q4) (fHi q4) (fLo q1) (fHi q1) (fLo q2) (fHi q2)) = (0 : Int32)
            · refine go (B := T20.setTop (mkF m 191 #[.val (.long q1), .second, .val (.long q2), .second, .val (.long q3), .second, .val (.long q4), .second, .val (.int (fLo q1)), .val (.int (fHi q1)), .val (.int (fLo q2)), .val (.int (fHi q2)), .val (.int (fLo q3)), .val (.int (fHi q3)), .val (.int (fLo q4)), .val (.int (fHi q4)), .val (.ref b9), .val (.ref b11), .val (.int (fOv (fLo q1) (fHi q1) (fLo q2) (fHi q2) (fLo q3) (fHi q3) (fLo q4) (fHi q4))), .val (.int (fOv (fLo q3) (fHi q3) (fLo q4) (fHi q4) (fLo q1) (fHi q1) (fLo q2) (fHi q2))), .val (.int (fMx (fLo q1) (fLo q3))), .val (.int (fMx (fLo q2) (fLo q4))), .val (.int (0 : Int32))] [])) (fun _ k => XS.icmpNo X20.here hx rfl (hb hby at_188) rfl (teq hc188).2 k) ?_
              refine go (B := T20.setTop (mkF m 192 #[.val (.long q1), .second, .val (.long q2), .second, .val (.long q3), .second, .val (.long q4), .second, .val (.int (fLo q1)), .val (.int (fHi q1)), .val (.int (fLo q2)), .val (.int (fHi q2)), .val (.int (fLo q3)), .val (.int (fHi q3)), .val (.int (fLo q4)), .val (.int (fHi q4)), .val (.ref b9), .val (.ref b11), .val (.int (fOv (fLo q1) (fHi q1) (fLo q2) (fHi q2) (fLo q3) (fHi q3) (fLo q4) (fHi q4))), .val (.int (fOv (fLo q3) (fHi q3) (fLo q4) (fHi q4) (fLo q1) (fHi q1) (fLo q2) (fHi q2))), .val (.int (fMx (fLo q1) (fLo q3))), .val (.int (fMx (fLo q2) (fLo q4))), .val (.int (0 : Int32))] [(.int (1 : Int32))])) (fun _ k => XS.iconst X20.here hx rfl (hb hby at_191) k) ?_
              refine go (B := T20.setTop (mkF m 196 #[.val (.long q1), .second, .val (.long q2), .second, .val (.long q3), .second, .val (.long q4), .second, .val (.int (fLo q1)), .val (.int (fHi q1)), .val (.int (fLo q2)), .val (.int (fHi q2)), .val (.int (fLo q3)), .val (.int (fHi q3)), .val (.int (fLo q4)), .val (.int (fHi q4)), .val (.ref b9), .val (.ref b11), .val (.int (fOv (fLo q1) (fHi q1) (fLo q2) (fHi q2) (fLo q3) (fHi q3) (fLo q4) (fHi q4))), .val (.int (fOv (fLo q3) (fHi q3) (fLo q4) (fHi q4) (fLo q1) (fHi q1) (fLo q2) (fHi q2))), .val (.int (fMx (fLo q1) (fLo q3))), .val (.int (fMx (fLo q2) (fLo q4))), .val (.int (0 : Int32))] [(.int (1 : Int32))])) (fun _ k => XS.goto X20.here hx rfl (pc0 := 192) (pc' := 196) rfl (hb hby at_192) (by decide) (by decide) k) ?_
              refine goRetN X20 hx (t := .boolean) Bd.returns (by simp) hlk (hb hby at_196) ?_ (by decide) (by decide)
              rw [e20]
              exact ⟨rfl, N20⟩
            · refine go (B := T20.setTop (mkF m 195 #[.val (.long q1), .second, .val (.long q2), .second, .val (.long q3), .second, .val (.long q4), .second, .val (.int (fLo q1)), .val (.int (fHi q1)), .val (.int (fLo q2)), .val (.int (fHi q2)), .val (.int (fLo q3)), .val (.int (fHi q3)), .val (.int (fLo q4)), .val (.int (fHi q4)), .val (.ref b9), .val (.ref b11), .val (.int (fOv (fLo q1) (fHi q1) (fLo q2) (fHi q2) (fLo q3) (fHi q3) (fLo q4) (fHi q4))), .val (.int (fOv (fLo q3) (fHi q3) (fLo q4) (fHi q4) (fLo q1) (fHi q1) (fLo q2) (fHi q2))), .val (.int (fMx (fLo q1) (fLo q3))), .val (.int (fMx (fLo q2) (fLo q4))), .val (.int (0 : Int32))] [])) (fun _ k => XS.icmpYes X20.here hx rfl (pc0 := 188) (pc' := 195) rfl (hb hby at_188) rfl (feq hc188).2 (by decide) (by decide) k) ?_
              refine go (B := T20.setTop (mkF m 196 #[.val (.long q1), .second, .val (.long q2), .second, .val (.long q3), .second, .val (.long q4), .second, .val (.int (fLo q1)), .val (.int (fHi q1)), .val (.int (fLo q2)), .val (.int (fHi q2)), .val (.int (fLo q3)), .val (.int (fHi q3)), .val (.int (fLo q4)), .val (.int (fHi q4)), .val (.ref b9), .val (.ref b11), .val (.int (fOv (fLo q1) (fHi q1) (fLo q2) (fHi q2) (fLo q3) (fHi q3) (fLo q4) (fHi q4))), .val (.int (fOv (fLo q3) (fHi q3) (fLo q4) (fHi q4) (fLo q1) (fHi q1) (fLo q2) (fHi q2))), .val (.int (fMx (fLo q1) (fLo q3))), .val (.int (fMx (fLo q2) (fLo q4))), .val (.int (0 : Int32))] [(.int (0 : Int32))])) (fun _ k => XS.iconst X20.here hx rfl (hb hby at_195) k) ?_
              refine goRetN X20 hx (t := .boolean) Bd.returns (by simp) hlk (hb hby at_196) ?_ (by decide) (by decide)
              rw [e20]
              exfalso
              have t1 := fOv_int (fLo q1) (fHi q1) (fLo q2) (fHi q2) (fLo q3) (fHi q3) (fLo q4) (fHi q4)
              have t2 := fOv_int (fLo q3) (fHi q3) (fLo q4) (fHi q4) (fLo q1) (fHi q1) (fLo q2) (fHi q2)
              have m1 := fMx_int (fLo q1) (fLo q3)
              have m2 := fMx_int (fLo q2) (fLo q4)
              have i1 := fIn_int (fMx (fLo q1) (fLo q3)) (fLo q1) (fHi q1)
              have i2 := fIn_int (fMx (fLo q1) (fLo q3)) (fLo q3) (fHi q3)
              have i3 := fIn_int (fMx (fLo q2) (fLo q4)) (fLo q2) (fHi q2)
              have i4 := fIn_int (fMx (fLo q2) (fLo q4)) (fLo q4) (fHi q4)
              have v1 := lo_hi q1
              have v2 := lo_hi q2
              have v3 := lo_hi q3
              have v4 := lo_hi q4
              simp only [Int32.lt_iff_toInt_lt, Int64.lt_iff_toInt_lt, ← Int32.toInt_inj, ← Int64.toInt_inj, Int32.reduceToInt, Int64.reduceToInt] at  hc131 hc143 hc155 hc167 hc181 hc188
              omega
          · refine go (B := T20.setTop (mkF m 195 #[.val (.long q1), .second, .val (.long q2), .second, .val (.long q3), .second, .val (.long q4), .second, .val (.int (fLo q1)), .val (.int (fHi q1)), .val (.int (fLo q2)), .val (.int (fHi q2)), .val (.int (fLo q3)), .val (.int (fHi q3)), .val (.int (fLo q4)), .val (.int (fHi q4)), .val (.ref b9), .val (.ref b11), .val (.int (fOv (fLo q1) (fHi q1) (fLo q2) (fHi q2) (fLo q3) (fHi q3) (fLo q4) (fHi q4))), .val (.int (fOv (fLo q3) (fHi q3) (fLo q4) (fHi q4) (fLo q1) (fHi q1) (fLo q2) (fHi q2))), .val (.int (fMx (fLo q1) (fLo q3))), .val (.int (fMx (fLo q2) (fLo q4))), .val (.int (0 : Int32))] [])) (fun _ k => XS.icmpYes X20.here hx rfl (pc0 := 181) (pc' := 195) rfl (hb hby at_181) rfl (feq hc181).2 (by decide) (by decide) k) ?_
            refine go (B := T20.setTop (mkF m 196 #[.val (.long q1), .second, .val (.long q2), .second, .val (.long q3), .second, .val (.long q4), .second, .val (.int (fLo q1)), .val (.int (fHi q1)), .val (.int (fLo q2)), .val (.int (fHi q2)), .val (.int (fLo q3)), .val (.int (fHi q3)), .val (.int (fLo q4)), .val (.int (fHi q4)), .val (.ref b9), .val (.ref b11), .val (.int (fOv (fLo q1) (fHi q1) (fLo q2) (fHi q2) (fLo q3) (fHi q3) (fLo q4) (fHi q4))), .val (.int (fOv (fLo q3) (fHi q3) (fLo q4) (fHi q4) (fLo q1) (fHi q1) (fLo q2) (fHi q2))), .val (.int (fMx (fLo q1) (fLo q3))), .val (.int (fMx (fLo q2) (fLo q4))), .val (.int (0 : Int32))] [(.int (0 : Int32))])) (fun _ k => XS.iconst X20.here hx rfl (hb hby at_195) k) ?_
            refine goRetN X20 hx (t := .boolean) Bd.returns (by simp) hlk (hb hby at_196) ?_ (by decide) (by decide)
            rw [e20]
            exfalso
            have t1 := fOv_int (fLo q1) (fHi q1) (fLo q2) (fHi q2) (fLo q3) (fHi q3) (fLo q4) (fHi q4)
            have t2 := fOv_int (fLo q3) (fHi q3) (fLo q4) (fHi q4) (fLo q1) (fHi q1) (fLo q2) (fHi q2)
            have m1 := fMx_int (fLo q1) (fLo q3)
            have m2 := fMx_int (fLo q2) (fLo q4)
            have i1 := fIn_int (fMx (fLo q1) (fLo q3)) (fLo q1) (fHi q1)
            have i2 := fIn_int (fMx (fLo q1) (fLo q3)) (fLo q3) (fHi q3)
            have i3 := fIn_int (fMx (fLo q2) (fLo q4)) (fLo q2) (fHi q2)
            have i4 := fIn_int (fMx (fLo q2) (fLo q4)) (fLo q4) (fHi q4)
            have v1 := lo_hi q1
            have v2 := lo_hi q2
            have v3 := lo_hi q3
            have v4 := lo_hi q4
            simp only [Int32.lt_iff_toInt_lt, Int64.lt_iff_toInt_lt, ← Int32.toInt_inj, ← Int64.toInt_inj, Int32.reduceToInt, Int64.reduceToInt] at  hc131 hc143 hc155 hc167 hc181
            omega
        · refine go (B := T20.setTop (mkF m 170 #[.val (.long q1), .second, .val (.long q2), .second, .val (.long q3), .second, .val (.long q4), .second, .val (.int (fLo q1)), .val (.int (fHi q1)), .val (.int (fLo q2)), .val (.int (fHi q2)), .val (.int (fLo q3)), .val (.int (fHi q3)), .val (.int (fLo q4)), .val (.int (fHi q4)), .val (.ref b9), .val (.ref b11), .val (.int (fOv (fLo q1) (fHi q1) (fLo q2) (fHi q2) (fLo q3) (fHi q3) (fLo q4) (fHi q4))), .val (.int (fOv (fLo q3) (fHi q3) (fLo q4) (fHi q4) (fLo q1) (fHi q1) (fLo q2) (fHi q2))), .val (.int (fMx (fLo q1) (fLo q3))), .val (.int (fMx (fLo q2) (fLo q4))), .unset] [])) (fun _ k => XS.ifNo X20.here hx rfl (hb hby at_167) rfl ((if0 _ _).trans (feq hc167).1) k) ?_
          refine go (B := T20.setTop (mkF m 171 #[.val (.long q1), .second, .val (.long q2), .second, .val (.long q3), .second, .val (.long q4), .second, .val (.int (fLo q1)), .val (.int (fHi q1)), .val (.int (fLo q2)), .val (.int (fHi q2)), .val (.int (fLo q3)), .val (.int (fHi q3)), .val (.int (fLo q4)), .val (.int (fHi q4)), .val (.ref b9), .val (.ref b11), .val (.int (fOv (fLo q1) (fHi q1) (fLo q2) (fHi q2) (fLo q3) (fHi q3) (fLo q4) (fHi q4))), .val (.int (fOv (fLo q3) (fHi q3) (fLo q4) (fHi q4) (fLo q1) (fHi q1) (fLo q2) (fHi q2))), .val (.int (fMx (fLo q1) (fLo q3))), .val (.int (fMx (fLo q2) (fLo q4))), .unset] [(.int (1 : Int32))])) (fun _ k => XS.iconst X20.here hx rfl (hb hby at_170) k) ?_
          refine go (B := T20.setTop (mkF m 175 #[.val (.long q1), .second, .val (.long q2), .second, .val (.long q3), .second, .val (.long q4), .second, .val (.int (fLo q1)), .val (.int (fHi q1)), .val (.int (fLo q2)), .val (.int (fHi q2)), .val (.int (fLo q3)), .val (.int (fHi q3)), .val (.int (fLo q4)), .val (.int (fHi q4)), .val (.ref b9), .val (.ref b11), .val (.int (fOv (fLo q1) (fHi q1) (fLo q2) (fHi q2) (fLo q3) (fHi q3) (fLo q4) (fHi q4))), .val (.int (fOv (fLo q3) (fHi q3) (fLo q4) (fHi q4) (fLo q1) (fHi q1) (fLo q2) (fHi q2))), .val (.int (fMx (fLo q1) (fLo q3))), .val (.int (fMx (fLo q2) (fLo q4))), .unset] [(.int (1 : Int32))])) (fun _ k => XS.goto X20.here hx rfl (pc0 := 171) (pc' := 175) rfl (hb hby at_171) (by decide) (by decide) k) ?_
          refine go (B := T20.setTop (mkF m 177 #[.val (.long q1), .second, .val (.long q2), .second, .val (.long q3), .second, .val (.long q4), .second, .val (.int (fLo q1)), .val (.int (fHi q1)), .val (.int (fLo q2)), .val (.int (fHi q2)), .val (.int (fLo q3)), .val (.int (fHi q3)), .val (.int (fLo q4)), .val (.int (fHi q4)), .val (.ref b9), .val (.ref b11), .val (.int (fOv (fLo q1) (fHi q1) (fLo q2) (fHi q2) (fLo q3) (fHi q3) (fLo q4) (fHi q4))), .val (.int (fOv (fLo q3) (fHi q3) (fLo q4) (fHi q4) (fLo q1) (fHi q1) (fLo q2) (fHi q2))), .val (.int (fMx (fLo q1) (fLo q3))), .val (.int (fMx (fLo q2) (fLo q4))), .val (.int (1 : Int32))] [])) (fun _ k => XS.istore X20.here hx rfl (hb hby at_175) rfl (l' := #[.val (.long q1), .second, .val (.long q2), .second, .val (.long q3), .second, .val (.long q4), .second, .val (.int (fLo q1)), .val (.int (fHi q1)), .val (.int (fLo q2)), .val (.int (fHi q2)), .val (.int (fLo q3)), .val (.int (fHi q3)), .val (.int (fLo q4)), .val (.int (fHi q4)), .val (.ref b9), .val (.ref b11), .val (.int (fOv (fLo q1) (fHi q1) (fLo q2) (fHi q2) (fLo q3) (fHi q3) (fLo q4) (fHi q4))), .val (.int (fOv (fLo q3) (fHi q3) (fLo q4) (fHi q4) (fLo q1) (fHi q1) (fLo q2) (fHi q2))), .val (.int (fMx (fLo q1) (fLo q3))), .val (.int (fMx (fLo q2) (fLo q4))), .val (.int (1 : Int32))]) rfl k) ?_
          refine go (B := T20.setTop (mkF m 179 #[.val (.long q1), .second, .val (.long q2), .second, .val (.long q3), .second, .val (.long q4), .second, .val (.int (fLo q1)), .val (.int (fHi q1)), .val (.int (fLo q2)), .val (.int (fHi q2)), .val (.int (fLo q3)), .val (.int (fHi q3)), .val (.int (fLo q4)), .val (.int (fHi q4)), .val (.ref b9), .val (.ref b11), .val (.int (fOv (fLo q1) (fHi q1) (fLo q2) (fHi q2) (fLo q3) (fHi q3) (fLo q4) (fHi q4))), .val (.int (fOv (fLo q3) (fHi q3) (fLo q4) (fHi q4) (fLo q1) (fHi q1) (fLo q2) (fHi q2))), .val (.int (fMx (fLo q1) (fLo q3))), .val (.int (fMx (fLo q2) (fLo q4))), .val (.int (1 : Int32))] [(.int (fOv (fLo q1) (fHi q1) (fLo q2) (fHi q2) (fLo q3) (fHi q3) (fLo q4) (fHi q4)))])) (fun _ k => XS.iload X20.here hx rfl (hb hby at_177) rfl k) ?_
          refine go (B := T20.setTop (mkF m 181 #[.val (.long q1), .second, .val (.long q2), .second, .val (.long q3), .second, .val (.long q4), .second, .val (.int (fLo q1)), .val (.int (fHi q1)), .val (.int (fLo q2)), .val (.int (fHi q2)), .val (.int (fLo q3)), .val (.int (fHi q3)), .val (.int (fLo q4)), .val (.int (fHi q4)), .val (.ref b9), .val (.ref b11), .val (.int (fOv (fLo q1) (fHi q1) (fLo q2) (fHi q2) (fLo q3) (fHi q3) (fLo q4) (fHi q4))), .val (.int (fOv (fLo q3) (fHi q3) (fLo q4) (fHi q4) (fLo q1) (fHi q1) (fLo q2) (fHi q2))), .val (.int (fMx (fLo q1) (fLo q3))), .val (.int (fMx (fLo q2) (fLo q4))), .val (.int (1 : Int32))] [(.int (1 : Int32)), (.int (fOv (fLo q1) (fHi q1) (fLo q2) (fHi q2) (fLo q3) (fHi q3) (fLo q4) (fHi q4)))])) (fun _ k => XS.iload X20.here hx rfl (hb hby at_179) rfl k) ?_
          by_cases hc181 : (fOv (fLo q1) (fHi q1) (fLo q2) (fHi q2) (fLo q3) (fHi q3) (fLo q4) (fHi q4)) = (1 : Int32)
          · refine go (B := T20.setTop (mkF m 184 #[.val (.long q1), .second, .val (.long q2), .second, .val (.long q3), .second, .val (.long q4), .second, .val (.int (fLo q1)), .val (.int (fHi q1)), .val (.int (fLo q2)), .val (.int (fHi q2)), .val (.int (fLo q3)), .val (.int (fHi q3)), .val (.int (fLo q4)), .val (.int (fHi q4)), .val (.ref b9), .val (.ref b11), .val (.int (fOv (fLo q1) (fHi q1) (fLo q2) (fHi q2) (fLo q3) (fHi q3) (fLo q4) (fHi q4))), .val (.int (fOv (fLo q3) (fHi q3) (fLo q4) (fHi q4) (fLo q1) (fHi q1) (fLo q2) (fHi q2))), .val (.int (fMx (fLo q1) (fLo q3))), .val (.int (fMx (fLo q2) (fLo q4))), .val (.int (1 : Int32))] [])) (fun _ k => XS.icmpNo X20.here hx rfl (hb hby at_181) rfl (teq hc181).2 k) ?_
            refine go (B := T20.setTop (mkF m 186 #[.val (.long q1), .second, .val (.long q2), .second, .val (.long q3), .second, .val (.long q4), .second, .val (.int (fLo q1)), .val (.int (fHi q1)), .val (.int (fLo q2)), .val (.int (fHi q2)), .val (.int (fLo q3)), .val (.int (fHi q3)), .val (.int (fLo q4)), .val (.int (fHi q4)), .val (.ref b9), .val (.ref b11), .val (.int (fOv (fLo q1) (fHi q1) (fLo q2) (fHi q2) (fLo q3) (fHi q3) (fLo q4) (fHi q4))), .val (.int (fOv (fLo q3) (fHi q3) (fLo q4) (fHi q4) (fLo q1) (fHi q1) (fLo q2) (fHi q2))), .val (.int (fMx (fLo q1) (fLo q3))), .val (.int (fMx (fLo q2) (fLo q4))), .val (.int (1 : Int32))] [(.int (fOv (fLo q3) (fHi q3) (fLo q4) (fHi q4) (fLo q1) (fHi q1) (fLo q2) (fHi q2)))])) (fun _ k => XS.iload X20.here hx rfl (hb hby at_184) rfl k) ?_
            refine go (B := T20.setTop (mkF m 188 #[.val (.long q1), .second, .val (.long q2), .second, .val (.long q3), .second, .val (.long q4), .second, .val (.int (fLo q1)), .val (.int (fHi q1)), .val (.int (fLo q2)), .val (.int (fHi q2)), .val (.int (fLo q3)), .val (.int (fHi q3)), .val (.int (fLo q4)), .val (.int (fHi q4)), .val (.ref b9), .val (.ref b11), .val (.int (fOv (fLo q1) (fHi q1) (fLo q2) (fHi q2) (fLo q3) (fHi q3) (fLo q4) (fHi q4))), .val (.int (fOv (fLo q3) (fHi q3) (fLo q4) (fHi q4) (fLo q1) (fHi q1) (fLo q2) (fHi q2))), .val (.int (fMx (fLo q1) (fLo q3))), .val (.int (fMx (fLo q2) (fLo q4))), .val (.int (1 : Int32))] [(.int (1 : Int32)), (.int (fOv (fLo q3) (fHi q3) (fLo q4) (fHi q4) (fLo q1) (fHi q1) (fLo q2) (fHi q2)))])) (fun _ k => XS.iload X20.here hx rfl (hb hby at_186) rfl k) ?_
            by_cases hc188 : (fOv (fLo q3) (fHi q3) (fLo q4) (fHi q4) (fLo q1) (fHi q1) (fLo q2) (fHi q2)) = (1 : Int32)
            · refine go (B := T20.setTop (mkF m 191 #[.val (.long q1), .second, .val (.long q2), .second, .val (.long q3), .second, .val (.long q4), .second, .val (.int (fLo q1)), .val (.int (fHi q1)), .val (.int (fLo q2)), .val (.int (fHi q2)), .val (.int (fLo q3)), .val (.int (fHi q3)), .val (.int (fLo q4)), .val (.int (fHi q4)), .val (.ref b9), .val (.ref b11), .val (.int (fOv (fLo q1) (fHi q1) (fLo q2) (fHi q2) (fLo q3) (fHi q3) (fLo q4) (fHi q4))), .val (.int (fOv (fLo q3) (fHi q3) (fLo q4) (fHi q4) (fLo q1) (fHi q1) (fLo q2) (fHi q2))), .val (.int (fMx (fLo q1) (fLo q3))), .val (.int (fMx (fLo q2) (fLo q4))), .val (.int (1 : Int32))] [])) (fun _ k => XS.icmpNo X20.here hx rfl (hb hby at_188) rfl (teq hc188).2 k) ?_
              refine go (B := T20.setTop (mkF m 192 #[.val (.long q1), .second, .val (.long q2), .second, .val (.long q3), .second, .val (.long q4), .second, .val (.int (fLo q1)), .val (.int (fHi q1)), .val (.int (fLo q2)), .val (.int (fHi q2)), .val (.int (fLo q3)), .val (.int (fHi q3)), .val (.int (fLo q4)), .val (.int (fHi q4)), .val (.ref b9), .val (.ref b11), .val (.int (fOv (fLo q1) (fHi q1) (fLo q2) (fHi q2) (fLo q3) (fHi q3) (fLo q4) (fHi q4))), .val (.int (fOv (fLo q3) (fHi q3) (fLo q4) (fHi q4) (fLo q1) (fHi q1) (fLo q2) (fHi q2))), .val (.int (fMx (fLo q1) (fLo q3))), .val (.int (fMx (fLo q2) (fLo q4))), .val (.int (1 : Int32))] [(.int (1 : Int32))])) (fun _ k => XS.iconst X20.here hx rfl (hb hby at_191) k) ?_
              refine go (B := T20.setTop (mkF m 196 #[.val (.long q1), .second, .val (.long q2), .second, .val (.long q3), .second, .val (.long q4), .second, .val (.int (fLo q1)), .val (.int (fHi q1)), .val (.int (fLo q2)), .val (.int (fHi q2)), .val (.int (fLo q3)), .val (.int (fHi q3)), .val (.int (fLo q4)), .val (.int (fHi q4)), .val (.ref b9), .val (.ref b11), .val (.int (fOv (fLo q1) (fHi q1) (fLo q2) (fHi q2) (fLo q3) (fHi q3) (fLo q4) (fHi q4))), .val (.int (fOv (fLo q3) (fHi q3) (fLo q4) (fHi q4) (fLo q1) (fHi q1) (fLo q2) (fHi q2))), .val (.int (fMx (fLo q1) (fLo q3))), .val (.int (fMx (fLo q2) (fLo q4))), .val (.int (1 : Int32))] [(.int (1 : Int32))])) (fun _ k => XS.goto X20.here hx rfl (pc0 := 192) (pc' := 196) rfl (hb hby at_192) (by decide) (by decide) k) ?_
              refine goRetN X20 hx (t := .boolean) Bd.returns (by simp) hlk (hb hby at_196) ?_ (by decide) (by decide)
              rw [e20]
              exact ⟨rfl, N20⟩
            · refine go (B := T20.setTop (mkF m 195 #[.val (.long q1), .second, .val (.long q2), .second, .val (.long q3), .second, .val (.long q4), .second, .val (.int (fLo q1)), .val (.int (fHi q1)), .val (.int (fLo q2)), .val (.int (fHi q2)), .val (.int (fLo q3)), .val (.int (fHi q3)), .val (.int (fLo q4)), .val (.int (fHi q4)), .val (.ref b9), .val (.ref b11), .val (.int (fOv (fLo q1) (fHi q1) (fLo q2) (fHi q2) (fLo q3) (fHi q3) (fLo q4) (fHi q4))), .val (.int (fOv (fLo q3) (fHi q3) (fLo q4) (fHi q4) (fLo q1) (fHi q1) (fLo q2) (fHi q2))), .val (.int (fMx (fLo q1) (fLo q3))), .val (.int (fMx (fLo q2) (fLo q4))), .val (.int (1 : Int32))] [])) (fun _ k => XS.icmpYes X20.here hx rfl (pc0 := 188) (pc' := 195) rfl (hb hby at_188) rfl (feq hc188).2 (by decide) (by decide) k) ?_
              refine go (B := T20.setTop (mkF m 196 #[.val (.long q1), .second, .val (.long q2), .second, .val (.long q3), .second, .val (.long q4), .second, .val (.int (fLo q1)), .val (.int (fHi q1)), .val (.int (fLo q2)), .val (.int (fHi q2)), .val (.int (fLo q3)), .val (.int (fHi q3)), .val (.int (fLo q4)), .val (.int (fHi q4)), .val (.ref b9), .val (.ref b11), .val (.int (fOv (fLo q1) (fHi q1) (fLo q2) (fHi q2) (fLo q3) (fHi q3) (fLo q4) (fHi q4))), .val (.int (fOv (fLo q3) (fHi q3) (fLo q4) (fHi q4) (fLo q1) (fHi q1) (fLo q2) (fHi q2))), .val (.int (fMx (fLo q1) (fLo q3))), .val (.int (fMx (fLo q2) (fLo q4))), .val (.int (1 : Int32))] [(.int (0 : Int32))])) (fun _ k => XS.iconst X20.here hx rfl (hb hby at_195) k) ?_
              refine goRetN X20 hx (t := .boolean) Bd.returns (by simp) hlk (hb hby at_196) ?_ (by decide) (by decide)
              rw [e20]
              exfalso
              have t1 := fOv_int (fLo q1) (fHi q1) (fLo q2) (fHi q2) (fLo q3) (fHi q3) (fLo q4) (fHi q4)
              have t2 := fOv_int (fLo q3) (fHi q3) (fLo q4) (fHi q4) (fLo q1) (fHi q1) (fLo q2) (fHi q2)
              have m1 := fMx_int (fLo q1) (fLo q3)
              have m2 := fMx_int (fLo q2) (fLo q4)
              have i1 := fIn_int (fMx (fLo q1) (fLo q3)) (fLo q1) (fHi q1)
              have i2 := fIn_int (fMx (fLo q1) (fLo q3)) (fLo q3) (fHi q3)
              have i3 := fIn_int (fMx (fLo q2) (fLo q4)) (fLo q2) (fHi q2)
              have i4 := fIn_int (fMx (fLo q2) (fLo q4)) (fLo q4) (fHi q4)
              have v1 := lo_hi q1
              have v2 := lo_hi q2
              have v3 := lo_hi q3
              have v4 := lo_hi q4
              simp only [Int32.lt_iff_toInt_lt, Int64.lt_iff_toInt_lt, ← Int32.toInt_inj, ← Int64.toInt_inj, Int32.reduceToInt, Int64.reduceToInt] at  hc131 hc143 hc155 hc167 hc181 hc188
              omega
          · refine go (B := T20.setTop (mkF m 195 #[.val (.long q1), .second, .val (.long q2), .second, .val (.long q3), .second, .val (.long q4), .second, .val (.int (fLo q1)), .val (.int (fHi q1)), .val (.int (fLo q2)), .val (.int (fHi q2)), .val (.int (fLo q3)), .val (.int (fHi q3)), .val (.int (fLo q4)), .val (.int (fHi q4)), .val (.ref b9), .val (.ref b11), .val (.int (fOv (fLo q1) (fHi q1) (fLo q2) (fHi q2) (fLo q3) (fHi q3) (fLo q4) (fHi q4))), .val (.int (fOv (fLo q3) (fHi q3) (fLo q4) (fHi q4) (fLo q1) (fHi q1) (fLo q2) (fHi q2))), .val (.int (fMx (fLo q1) (fLo q3))), .val (.int (fMx (fLo q2) (fLo q4))), .val (.int (1 : Int32))] [])) (fun _ k => XS.icmpYes X20.here hx rfl (pc0 := 181) (pc' := 195) rfl (hb hby at_181) rfl (feq hc181).2 (by decide) (by decide) k) ?_
            refine go (B := T20.setTop (mkF m 196 #[.val (.long q1), .second, .val (.long q2), .second, .val (.long q3), .second, .val (.long q4), .second, .val (.int (fLo q1)), .val (.int (fHi q1)), .val (.int (fLo q2)), .val (.int (fHi q2)), .val (.int (fLo q3)), .val (.int (fHi q3)), .val (.int (fLo q4)), .val (.int (fHi q4)), .val (.ref b9), .val (.ref b11), .val (.int (fOv (fLo q1) (fHi q1) (fLo q2) (fHi q2) (fLo q3) (fHi q3) (fLo q4) (fHi q4))), .val (.int (fOv (fLo q3) (fHi q3) (fLo q4) (fHi q4) (fLo q1) (fHi q1) (fLo q2) (fHi q2))), .val (.int (fMx (fLo q1) (fLo q3))), .val (.int (fMx (fLo q2) (fLo q4))), .val (.int (1 : Int32))] [(.int (0 : Int32))])) (fun _ k => XS.iconst X20.here hx rfl (hb hby at_195) k) ?_
            refine goRetN X20 hx (t := .boolean) Bd.returns (by simp) hlk (hb hby at_196) ?_ (by decide) (by decide)
            rw [e20]
            exfalso
            have t1 := fOv_int (fLo q1) (fHi q1) (fLo q2) (fHi q2) (fLo q3) (fHi q3) (fLo q4) (fHi q4)
            have t2 := fOv_int (fLo q3) (fHi q3) (fLo q4) (fHi q4) (fLo q1) (fHi q1) (fLo q2) (fHi q2)
            have m1 := fMx_int (fLo q1) (fLo q3)
            have m2 := fMx_int (fLo q2) (fLo q4)
            have i1 := fIn_int (fMx (fLo q1) (fLo q3)) (fLo q1) (fHi q1)
            have i2 := fIn_int (fMx (fLo q1) (fLo q3)) (fLo q3) (fHi q3)
            have i3 := fIn_int (fMx (fLo q2) (fLo q4)) (fLo q2) (fHi q2)
            have i4 := fIn_int (fMx (fLo q2) (fLo q4)) (fLo q4) (fHi q4)
            have v1 := lo_hi q1
            have v2 := lo_hi q2
            have v3 := lo_hi q3
            have v4 := lo_hi q4
            simp only [Int32.lt_iff_toInt_lt, Int64.lt_iff_toInt_lt, ← Int32.toInt_inj, ← Int64.toInt_inj, Int32.reduceToInt, Int64.reduceToInt] at  hc131 hc143 hc155 hc167 hc181
            omega
set_option maxRecDepth 65536 in
set_option maxHeartbeats 40000000 in
theorem comes_1 {Post : Tables → Env → Array Value → State → Outcome → State → Prop} (hpost : ∀ tb e args s v u, (limb_1_1.after args s (.returned v) u = true ∧ limb_1_2.after args s (.returned v) u = true ∧ True) → FrameEnd s (.returned v) u (Jvm.fieldLocs frame_1_writes args s ++ Jvm.arrayLocs frame_1_arrays args s ++ Jvm.staticLocs frame_1_statics s) 16 128 → Post tb e args s (.returned v) u) :
    ArmFor flags0 classFile x code maxLocals ret World_1 tables_1 room_1 Calls_1 rest_1 Pre_1 Post := by
  intro l hfl _ _ p e ha hc hk s m args below hf hA hF happ hP
  obtain ⟨hcalls, hrest, hpre⟩ := hP
  obtain ⟨-, -, -, hnamed, -, -, -, hat⟩ := (Spec.applies_iff hf).mp happ
  obtain ⟨hg, hn⟩ := and_e (Cond.before_iff.mp (show (Jvm.Cond.and given_1 narrow_1).before args s = true from hpre))
  obtain ⟨hcnt, gg0⟩ := and_e hg
  obtain ⟨ga0, gg1⟩ := and_e gg0
  obtain ⟨ga1, gg2⟩ := and_e gg1
  obtain ⟨ga2, gg3⟩ := and_e gg2
  obtain ⟨w0, w1, w2, w3, rfl⟩ : ∃ w0 w1 w2 w3 : Value, args = #[w0, w1, w2, w3] := by
    have hs : args.size = 4 := by simpa [Cond.value, given_1] using hcnt
    obtain ⟨L⟩ := args
    match L, hs with
    | [w0, w1, w2, w3], _ => exact ⟨w0, w1, w2, w3, rfl⟩
  have hw := fun d (hd : d ∈ tables_1) => atoms_spec (ws := Jvm.Cond.code x code maxLocals ret :: tables_1) hat d (List.mem_cons_of_mem _ hd)
  have hfit : Fit s := fun {y c} hc i hi => by
    obtain ⟨ha, rfl⟩ := Array.getElem?_eq_some_iff.mp hc
    have q := List.all_eq_true.mp ((Array.all_eq_true_iff_forall_mem.mp hF) _ (Array.getElem_mem ha)) i (List.mem_range.mpr hi)
    simpa [Array.getElem?_eq_getElem hi] using q
  obtain ⟨i0, ei0⟩ := isL_v ga0
  obtain rfl : w0 = (.long i0) := Option.some.inj ei0
  obtain ⟨i1, ei1⟩ := isL_v ga1
  obtain rfl : w1 = (.long i1) := Option.some.inj ei1
  obtain ⟨i2, ei2⟩ := isL_v ga2
  obtain rfl : w2 = (.long i2) := Option.some.inj ei2
  obtain ⟨i3, ei3⟩ := isL_v gg3
  obtain rfl : w3 = (.long i3) := Option.some.inj ei3
  obtain ⟨n, o, h1, h2, h3, _, L, rfl, ⟨rfl, N⟩, hq⟩ := rm0 l s _ hw tables_1 i0 i1 i2 i3 s.heap s.heap.size (Nat.le_refl _) p e ha hc hk s m _ below hf ((Spec.applies_iff_loose hf).mp happ).1 ⟨rfl, State.Warmed39.refl s, rfl⟩ trivial
  refine ⟨n, _, h1, h2, h3, hpost _ _ _ _ _ _ ⟨Cond.after_iff.mpr rfl, Cond.after_iff.mpr (eq_i res_at (Term.int_eval (1)) rfl), trivial⟩ ⟨hq.1, hq.2.1, (hq.2.2.sift fun y hy => Or.inr (N y hy)).mono (by decide) (by decide)⟩⟩
theorem main_1_1 : Claimed_1_1 := comes_1 fun _ _ _ _ _ _ h hF => ⟨h.1, hF⟩
theorem main_1_2 : Claimed_1_2 := comes_1 fun _ _ _ _ _ _ h hF => ⟨h.2.1, hF⟩
end Jvm.Pilot.@@N@@
namespace Jvm.Pilot.@@N@@
open Jvm Jvm.ClassFile Sem Op Lib Jvm.Free Jvm.Stand Jvm.Pilot.@@N@@.Jvm.D
/-! MADE BY PROGRAM (witnessworld.py) out of the Statement's table words and the real class files: 11 classes; the members and pool entries that the words name. The judged class is class 1, her method 1. -/
namespace start1
open Jvm.ClassFile
def u (s : String) : CpInfo := .utf8 (stringToUtf16 s)
/-- a pool by its gaps: so many unusable entries, then the entry; so many at the end -/
def gap : Nat → List CpInfo → List CpInfo
  | 0, r => r
  | n + 1, r => .unusable :: gap n r
def poolList (es : List (Nat × CpInfo)) (last : Nat) : List CpInfo := es.foldr (fun e r => gap e.1 (e.2 :: r)) (gap last [])
def pool (es : List (Nat × CpInfo)) (last : Nat) : Array CpInfo := ⟨poolList es last⟩
def fileOf (pool : Array CpInfo) (this : Nat) (attrs : Array Attribute := #[]) (ms : Array MethodInfo := #[]) (fl : Nat := 33) (sup : Nat := 0) (ifs : Array Nat := #[]) (fds : Array FieldInfo := #[]) : ClassFile where
  minorVersion := 0
  majorVersion := 65
  constantPool := pool
  accessFlags := fl
  thisClass := this
  superClass := sup
  interfaces := ifs
  fields := fds
  methods := ms
  attributes := attrs
def plain (name : String) (sup : Option ClassId) : Class where
  name := name
  kind := .ordinary
  loader := none
  accessFlags := 33
  super := sup
  interfaces := #[]
  cf := none
  fields := #[]
  methods := #[]
  instanceTypes := #[]
  staticTypes := #[]
  resolved := #[]
  callSites := []
  init := .initialized
  statics := none
  mirror := none

def pool0 : Array CpInfo := pool [(5, u "<init>"), (0, u "()V"), (1, .class_ 10), (1, u "java/lang/Object")] 113

def k0c0 : Code := { maxStack := 0, maxLocals := 1, code := object_method_1_code, exceptionTable := #[], attributes := #[] }
def k0m0 : Method := { name := "<init>", desc := "()V", sig := { parameters := [], returnType := none }, accessFlags := 1, code := some k0c0 }
/-- java/lang/Object -/
def k0 : Class := { plain "java/lang/Object" none with
  accessFlags := 33
  interfaces := #[]
  cf := some (fileOf pool0 8 #[] #[{ accessFlags := 1, nameIndex := 5, descriptorIndex := 6, attributes := #[] }] 33 0 #[] #[])
  fields := #[]
  methods := #[k0m0]
  instanceTypes := #[]
  staticTypes := #[]
  resolved := Array.replicate 124 none
  statics := none }

def pool1 : Array CpInfo := pool [(2, .class_ 4), (1, u "java/lang/Object"), (0, u "<init>"), (0, u "()V"), (0, .methodref 8 9), (0, .class_ 10), (0, .nameAndType 11 12), (0, u "com/example/eel_river/eelriver/space/CellRangeOverlapsPinLaw"), (0, u "lo"), (0, u "(J)I"), (0, .methodref 8 14), (0, .nameAndType 15 12), (0, u "hi"), (0, .class_ 17), (0, u "com/example/eel_river/eelriver/space/CellRange"), (0, .methodref 16 19), (0, .nameAndType 5 20), (0, u "(IIII)V"), (0, .methodref 16 22), (0, .nameAndType 23 24), (0, u "overlaps"), (0, u "(Lcom/example/eel_river/eelriver/space/CellRange;)Z"), (0, .methodref 26 27), (0, .class_ 28), (0, .nameAndType 29 30), (0, u "java/lang/Math"), (0, u "max"), (0, u "(II)I"), (0, .methodref 8 32), (0, .nameAndType 33 34), (0, u "in"), (0, u "(III)Z"), (0, .integer 2147483647), (0, .methodref 8 37), (0, .nameAndType 38 12), (0, u "p"), (0, .methodref 8 40), (0, .nameAndType 41 12), (0, u "q"), (0, .methodref 26 43), (0, .nameAndType 44 30), (0, u "min"), (2, u "law"), (0, u "(JJJJ)Z")] 3

def k1m0 : Method := { name := "<init>", desc := "()V", sig := { parameters := [], returnType := none }, accessFlags := 1, code := none }
def k1c1 : Code := { maxStack := 6, maxLocals := 23, code := code, exceptionTable := #[], attributes := #[] }
def k1m1 : Method := { name := "law", desc := "(JJJJ)Z", sig := { parameters := [.long, .long, .long, .long], returnType := some .boolean }, accessFlags := 9, code := some k1c1 }
def k1c2 : Code := { maxStack := 3, maxLocals := 2, code := method_3_code, exceptionTable := #[], attributes := #[] }
def k1m2 : Method := { name := "p", desc := "(J)I", sig := { parameters := [.long], returnType := some .int }, accessFlags := 10, code := some k1c2 }
def k1c3 : Code := { maxStack := 2, maxLocals := 2, code := method_4_code, exceptionTable := #[], attributes := #[] }
def k1m3 : Method := { name := "q", desc := "(J)I", sig := { parameters := [.long], returnType := some .int }, accessFlags := 10, code := some k1c3 }
def k1c4 : Code := { maxStack := 3, maxLocals := 2, code := method_5_code, exceptionTable := #[], attributes := #[] }
def k1m4 : Method := { name := "lo", desc := "(J)I", sig := { parameters := [.long], returnType := some .int }, accessFlags := 10, code := some k1c4 }
def k1c5 : Code := { maxStack := 3, maxLocals := 2, code := method_6_code, exceptionTable := #[], attributes := #[] }
def k1m5 : Method := { name := "hi", desc := "(J)I", sig := { parameters := [.long], returnType := some .int }, accessFlags := 10, code := some k1c5 }
def k1c6 : Code := { maxStack := 2, maxLocals := 3, code := method_7_code, exceptionTable := #[], attributes := #[] }
def k1m6 : Method := { name := "in", desc := "(III)Z", sig := { parameters := [.int, .int, .int], returnType := some .boolean }, accessFlags := 10, code := some k1c6 }
/-- com/example/eel_river/eelriver/space/CellRangeOverlapsPinLaw -/
def k1 : Class := { plain "com/example/eel_river/eelriver/space/CellRangeOverlapsPinLaw" (some 0) with
  accessFlags := 49
  interfaces := #[]
  cf := some (fileOf pool1 8 #[] #[{ accessFlags := 1, nameIndex := 5, descriptorIndex := 6, attributes := #[] }, { accessFlags := 9, nameIndex := 47, descriptorIndex := 48, attributes := #[] }, { accessFlags := 10, nameIndex := 38, descriptorIndex := 12, attributes := #[] }, { accessFlags := 10, nameIndex := 41, descriptorIndex := 12, attributes := #[] }, { accessFlags := 10, nameIndex := 11, descriptorIndex := 12, attributes := #[] }, { accessFlags := 10, nameIndex := 15, descriptorIndex := 12, attributes := #[] }, { accessFlags := 10, nameIndex := 33, descriptorIndex := 34, attributes := #[] }] 49 2 #[] #[])
  fields := #[]
  methods := #[k1m0, k1m1, k1m2, k1m3, k1m4, k1m5, k1m6]
  instanceTypes := #[]
  staticTypes := #[]
  resolved := Array.replicate 52 none
  statics := none }

def pool2 : Array CpInfo := pool [(1, .class_ 2), (0, u "java/lang/Math"), (1, .class_ 6), (1, u "java/lang/Object"), (0, u "<init>"), (0, u "()V"), (89, .class_ 100), (1, u "java/lang/Math$RandomNumberGeneratorHolder"), (71, u "negativeZeroFloatBits"), (0, u "J"), (2, u "negativeZeroDoubleBits"), (21, u "max"), (2, u "min"), (43, u "$assertionsDisabled"), (0, u "Z"), (88, u "(II)I"), (2, u "twoToTheDoubleScaleDown"), (0, u "D"), (4, u "twoToTheDoubleScaleUp"), (9, u "E"), (3, u "PI"), (2, u "TAU"), (2, u "DEGREES_TO_RADIANS"), (0, u "RADIANS_TO_DEGREES")] 94

def k2m0 : Method := { name := "<init>", desc := "()V", sig := { parameters := [], returnType := none }, accessFlags := 2, code := none }
def k2c1 : Code := { maxStack := 2, maxLocals := 2, code := jdk_29_method_65_code, exceptionTable := #[], attributes := #[] }
def k2m1 : Method := { name := "max", desc := "(II)I", sig := { parameters := [.int, .int], returnType := some .int }, accessFlags := 9, code := some k2c1 }
def k2c2 : Code := { maxStack := 2, maxLocals := 2, code := jdk_29_method_69_code, exceptionTable := #[], attributes := #[] }
def k2m2 : Method := { name := "min", desc := "(II)I", sig := { parameters := [.int, .int], returnType := some .int }, accessFlags := 9, code := some k2c2 }
/-- java/lang/Math -/
def k2 : Class := { plain "java/lang/Math" (some 0) with
  accessFlags := 49
  interfaces := #[]
  cf := some (fileOf pool2 1 #[.nestMembers #[98]] #[{ accessFlags := 2, nameIndex := 7, descriptorIndex := 8, attributes := #[] }, { accessFlags := 9, nameIndex := 198, descriptorIndex := 335, attributes := #[] }, { accessFlags := 9, nameIndex := 201, descriptorIndex := 335, attributes := #[] }] 49 4 #[] #[{ accessFlags := 25, nameIndex := 354, descriptorIndex := 339, attributes := #[] }, { accessFlags := 25, nameIndex := 358, descriptorIndex := 339, attributes := #[] }, { accessFlags := 25, nameIndex := 361, descriptorIndex := 339, attributes := #[] }, { accessFlags := 26, nameIndex := 364, descriptorIndex := 339, attributes := #[] }, { accessFlags := 26, nameIndex := 365, descriptorIndex := 339, attributes := #[] }, { accessFlags := 26, nameIndex := 172, descriptorIndex := 173, attributes := #[] }, { accessFlags := 26, nameIndex := 176, descriptorIndex := 173, attributes := #[] }, { accessFlags := 8, nameIndex := 344, descriptorIndex := 339, attributes := #[] }, { accessFlags := 8, nameIndex := 338, descriptorIndex := 339, attributes := #[] }, { accessFlags := 4120, nameIndex := 245, descriptorIndex := 246, attributes := #[] }])
  fields := #[{ name := "E", type := .double, accessFlags := 25, slot := 0, constantValue := 0 }, { name := "PI", type := .double, accessFlags := 25, slot := 1, constantValue := 0 }, { name := "TAU", type := .double, accessFlags := 25, slot := 2, constantValue := 0 }, { name := "DEGREES_TO_RADIANS", type := .double, accessFlags := 26, slot := 3, constantValue := 0 }, { name := "RADIANS_TO_DEGREES", type := .double, accessFlags := 26, slot := 4, constantValue := 0 }, { name := "negativeZeroFloatBits", type := .long, accessFlags := 26, slot := 5, constantValue := 0 }, { name := "negativeZeroDoubleBits", type := .long, accessFlags := 26, slot := 6, constantValue := 0 }, { name := "twoToTheDoubleScaleUp", type := .double, accessFlags := 8, slot := 7, constantValue := 0 }, { name := "twoToTheDoubleScaleDown", type := .double, accessFlags := 8, slot := 8, constantValue := 0 }, { name := "$assertionsDisabled", type := .boolean, accessFlags := 4120, slot := 9, constantValue := 0 }]
  methods := #[k2m0, k2m1, k2m2]
  instanceTypes := #[]
  staticTypes := #[.double, .double, .double, .double, .double, .long, .long, .double, .double, .boolean]
  resolved := Array.replicate 460 none
  statics := none }

def pool3 : Array CpInfo := pool [(1, .methodref 2 3), (0, .class_ 4), (0, .nameAndType 5 6), (0, u "java/lang/Object"), (0, u "<init>"), (0, u "()V"), (0, .class_ 8), (0, u "java/lang/Record")] 13

def k3c0 : Code := { maxStack := 1, maxLocals := 1, code := jdk_30_method_1_code, exceptionTable := #[], attributes := #[] }
def k3m0 : Method := { name := "<init>", desc := "()V", sig := { parameters := [], returnType := none }, accessFlags := 4, code := some k3c0 }
/-- java/lang/Record -/
def k3 : Class := { plain "java/lang/Record" (some 0) with
  accessFlags := 1057
  interfaces := #[]
  cf := some (fileOf pool3 7 #[] #[{ accessFlags := 4, nameIndex := 5, descriptorIndex := 6, attributes := #[] }] 1057 2 #[] #[])
  fields := #[]
  methods := #[k3m0]
  instanceTypes := #[]
  staticTypes := #[]
  resolved := Array.replicate 22 none
  statics := none }

def pool4 : Array CpInfo := pool [(1, .methodref 2 3), (0, .class_ 4), (0, .nameAndType 5 6), (0, u "java/lang/Record"), (0, u "<init>"), (0, u "()V"), (9, .fieldref 17 18), (0, .class_ 19), (0, .nameAndType 20 21), (0, u "com/example/eel_river/eelriver/space/CellRange"), (0, u "firstColumn"), (0, u "I"), (0, .fieldref 17 23), (0, .nameAndType 24 21), (0, u "lastColumn"), (0, .fieldref 17 26), (0, .nameAndType 27 21), (0, u "firstRow"), (0, .fieldref 17 29), (0, .nameAndType 30 21), (0, u "lastRow"), (28, u "(IIII)V"), (16, .class_ 78), (1, u "com/example/eel_river/eelriver/space/CellRange$1"), (34, u "overlaps"), (0, u "(Lcom/example/eel_river/eelriver/space/CellRange;)Z")] 44

def k4c0 : Code := { maxStack := 6, maxLocals := 5, code := prog_198_method_1_code, exceptionTable := #[], attributes := #[] }
def k4m0 : Method := { name := "<init>", desc := "(IIII)V", sig := { parameters := [.int, .int, .int, .int], returnType := none }, accessFlags := 1, code := some k4c0 }
def k4c1 : Code := { maxStack := 2, maxLocals := 2, code := prog_198_method_7_code, exceptionTable := #[], attributes := #[] }
def k4m1 : Method := { name := "overlaps", desc := "(Lcom/example/eel_river/eelriver/space/CellRange;)Z", sig := { parameters := [(.object "com/example/eel_river/eelriver/space/CellRange")], returnType := some .boolean }, accessFlags := 1, code := some k4c1 }
/-- com/example/eel_river/eelriver/space/CellRange -/
def k4 : Class := { plain "com/example/eel_river/eelriver/space/CellRange" (some 3) with
  accessFlags := 49
  interfaces := #[]
  cf := some (fileOf pool4 17 #[.nestMembers #[76]] #[{ accessFlags := 1, nameIndex := 5, descriptorIndex := 59, attributes := #[] }, { accessFlags := 1, nameIndex := 113, descriptorIndex := 114, attributes := #[] }] 49 2 #[] #[{ accessFlags := 18, nameIndex := 20, descriptorIndex := 21, attributes := #[] }, { accessFlags := 18, nameIndex := 24, descriptorIndex := 21, attributes := #[] }, { accessFlags := 18, nameIndex := 27, descriptorIndex := 21, attributes := #[] }, { accessFlags := 18, nameIndex := 30, descriptorIndex := 21, attributes := #[] }])
  fields := #[{ name := "firstColumn", type := .int, accessFlags := 18, slot := 0, constantValue := 0 }, { name := "lastColumn", type := .int, accessFlags := 18, slot := 1, constantValue := 0 }, { name := "firstRow", type := .int, accessFlags := 18, slot := 2, constantValue := 0 }, { name := "lastRow", type := .int, accessFlags := 18, slot := 3, constantValue := 0 }]
  methods := #[k4m0, k4m1]
  instanceTypes := #[.int, .int, .int, .int]
  staticTypes := #[]
  resolved := Array.replicate 159 none
  statics := none }

def pool5 : Array CpInfo := pool [(1, u "java/lang/Cloneable"), (0, .class_ 1), (0, u "java/lang/Object"), (0, .class_ 3)] 3

/-- java/lang/Cloneable -/
def k5 : Class := { plain "java/lang/Cloneable" (some 0) with
  accessFlags := 1537
  interfaces := #[]
  cf := some (fileOf pool5 2 #[] #[] 1537 4 #[] #[])
  fields := #[]
  methods := #[]
  instanceTypes := #[]
  staticTypes := #[]
  resolved := Array.replicate 8 none
  statics := none }

def pool6 : Array CpInfo := pool [(1, u "java/io/Serializable"), (0, .class_ 1), (0, u "java/lang/Object"), (0, .class_ 3)] 3

/-- java/io/Serializable -/
def k6 : Class := { plain "java/io/Serializable" (some 0) with
  accessFlags := 1537
  interfaces := #[]
  cf := some (fileOf pool6 2 #[] #[] 1537 4 #[] #[])
  fields := #[]
  methods := #[]
  instanceTypes := #[]
  staticTypes := #[]
  resolved := Array.replicate 8 none
  statics := none }

/-- the primitive byte -/
def k7 : Class := { plain "byte" none with kind := .primitive 'B', accessFlags := 0x411 }
/-- [B -/
def k8 : Class := { plain "[B" (some 0) with kind := .array 7 .byte, interfaces := #[5, 6], accessFlags := 1041 }

/-- the primitive int -/
def k9 : Class := { plain "int" none with kind := .primitive 'I', accessFlags := 0x411 }
/-- [I -/
def k10 : Class := { plain "[I" (some 0) with kind := .array 9 .int, interfaces := #[5, 6], accessFlags := 1041 }

def heap : Heap := #[]
def classes : Array Class := #[k0, k1, k2, k3, k4, k5, k6, k7, k8, k9, k10]
def interned : List (Array UInt16 × Addr) := []
def slotsUsed : Nat := 0
def theMethod : MethodId := ⟨1, 1⟩
def args0 : Array Value := #[.long 5, .long 7, .long 2, .long 3]
def aboutOver (below : List Frame) : State where
  vm := { classes := classes, interned := interned.toArray }
  heap := heap
  slotsUsed := slotsUsed
  threads := #[{ frames := .invoking theMethod args0 :: below }]
def below0 : List Frame := [.native { method := ⟨0, 0⟩, args := #[] }]
def about1 : State := aboutOver below0
def p0 : Program := .bare "" "" ""
def e0 : Env := launch0.env 0 0 0
theorem w_frames : about1.frames = Frame.invoking theMethod args0 :: below0 := rfl
set_option maxRecDepth 65536 in
theorem w_args : argsFit about1.vm theMethod args0 = true := by decide +kernel
set_option maxRecDepth 65536 in
theorem w_heap : heapFits about1 = true := by decide +kernel
set_option maxRecDepth 65536 in
theorem w_runnable : about1.curStatus? = some .runnable := by decide +kernel
set_option maxRecDepth 65536 in
theorem w_alone : about1.alone = true := by decide +kernel
set_option maxRecDepth 65536 in
theorem w_named : about1.methodNamed? x = some theMethod := by decide +kernel
set_option maxRecDepth 65536 in
theorem w_hears : about1.hears theMethod below0 = true := by decide +kernel
set_option maxRecDepth 65536 in
theorem w_ripe : about1.ripe theMethod args0 below0 = true := by decide +kernel
theorem w_running : about1.status = .running := rfl
set_option maxRecDepth 65536 in
theorem w_room : about1.hasRoom e0.platform room_1 = true :=
  launch0.hasRoom_least _ room_1 (by decide +kernel) (by decide +kernel) (by decide +kernel) (by decide +kernel) (by decide +kernel) (by decide +kernel)
theorem allAtoms_all (ts : List Jvm.Cond) (a : Array Jvm.Value) (st : Jvm.State) : (allAtoms ts).before a st = ts.all (fun c => c.before a st) := by
  induction ts with
  | nil => rfl
  | cons c t ih =>
    show (Jvm.Cond.and c (allAtoms t)).before a st = _
    rw [Jvm.Cond.before_and, ih, List.all_cons]
def words1 : List Jvm.Cond := Jvm.Cond.code x code maxLocals ret :: tables_1
/-- a 'code' word, met by the world's own term for the bytes: nothing is compared byte by byte -/
theorem code_word {y : MethodName} {bytes : ByteArray} {mx : Nat} {rt : Option FieldType} {a : Array Value} {s : State} {m : MethodId} {meth : Method} {c : Code} (h1 : s.methodNamed? y = some m) (h2 : s.vm.method? m = some meth) (h3 : meth.code = some c) (h4 : c.code = bytes)
    (h5 : (c.maxLocals == mx && c.exceptionTable.isEmpty && decide (c.maxStack ≤ mostOperands) && decide (meth.sig.returnType = rt) && !meth.locks && decide (parseMethodDescriptor y.desc = some meth.sig)) = true) : (Jvm.Cond.code y bytes mx rt).before a s = true := by
  simp only [Bool.and_eq_true, beq_iff_eq, Bool.not_eq_true', decide_eq_true_eq] at h5
  obtain ⟨⟨⟨⟨⟨g1, g2⟩, g3⟩, g4⟩, g5⟩, g6⟩ := h5
  simp [Cond.before, Cond.holds, Cond.value, h1, h2, h3, h4, g1, g2, g3, g4, g5, g6]
def isCode : Jvm.Cond → Bool
  | .code _ _ _ _ => true
  | _ => false
theorem all_split {L : List Jvm.Cond} {P : Jvm.Cond → Bool} (h1 : L.all (fun c => isCode c || P c) = true) (h2 : ∀ c ∈ L.filter isCode, P c = true) : L.all P = true := by
  refine List.all_eq_true.mpr fun c hc => ?_
  have h := List.all_eq_true.mp h1 c hc
  rcases Bool.eq_false_or_eq_true (isCode c) with hi | hi
  · exact h2 c (List.mem_filter.mpr ⟨hc, hi⟩)
  · simpa [hi] using h
set_option maxRecDepth 65536 in
theorem w_c0 : (Jvm.Cond.code x code maxLocals ret).before args0 about1 = true := code_word (m := ⟨1, 1⟩) (meth := k1m1) (c := k1c1) (by decide +kernel) rfl rfl rfl (by decide +kernel)
set_option maxRecDepth 65536 in
theorem w_c1 : (Jvm.Cond.code ({ cls := "com/example/eel_river/eelriver/space/CellRangeOverlapsPinLaw", name := "lo", desc := "(J)I" } : Jvm.MethodName) method_5_code (2 : Nat) (Option.some Jvm.ClassFile.FieldType.int)).before args0 about1 = true := code_word (m := ⟨1, 4⟩) (meth := k1m4) (c := k1c4) (by decide +kernel) rfl rfl rfl (by decide +kernel)
set_option maxRecDepth 65536 in
theorem w_c2 : (Jvm.Cond.code ({ cls := "com/example/eel_river/eelriver/space/CellRangeOverlapsPinLaw", name := "p", desc := "(J)I" } : Jvm.MethodName) method_3_code (2 : Nat) (Option.some Jvm.ClassFile.FieldType.int)).before args0 about1 = true := code_word (m := ⟨1, 2⟩) (meth := k1m2) (c := k1c2) (by decide +kernel) rfl rfl rfl (by decide +kernel)
set_option maxRecDepth 65536 in
theorem w_c3 : (Jvm.Cond.code ({ cls := "com/example/eel_river/eelriver/space/CellRangeOverlapsPinLaw", name := "q", desc := "(J)I" } : Jvm.MethodName) method_4_code (2 : Nat) (Option.some Jvm.ClassFile.FieldType.int)).before args0 about1 = true := code_word (m := ⟨1, 3⟩) (meth := k1m3) (c := k1c3) (by decide +kernel) rfl rfl rfl (by decide +kernel)
set_option maxRecDepth 65536 in
theorem w_c4 : (Jvm.Cond.code ({ cls := "java/lang/Math", name := "min", desc := "(II)I" } : Jvm.MethodName) jdk_29_method_69_code (2 : Nat) (Option.some Jvm.ClassFile.FieldType.int)).before args0 about1 = true := code_word (m := ⟨2, 2⟩) (meth := k2m2) (c := k2c2) (by decide +kernel) rfl rfl rfl (by decide +kernel)
set_option maxRecDepth 65536 in
theorem w_c5 : (Jvm.Cond.code ({ cls := "com/example/eel_river/eelriver/space/CellRangeOverlapsPinLaw", name := "hi", desc := "(J)I" } : Jvm.MethodName) method_6_code (2 : Nat) (Option.some Jvm.ClassFile.FieldType.int)).before args0 about1 = true := code_word (m := ⟨1, 5⟩) (meth := k1m5) (c := k1c5) (by decide +kernel) rfl rfl rfl (by decide +kernel)
set_option maxRecDepth 65536 in
theorem w_c6 : (Jvm.Cond.code ({ cls := "java/lang/Math", name := "max", desc := "(II)I" } : Jvm.MethodName) jdk_29_method_65_code (2 : Nat) (Option.some Jvm.ClassFile.FieldType.int)).before args0 about1 = true := code_word (m := ⟨2, 1⟩) (meth := k2m1) (c := k2c1) (by decide +kernel) rfl rfl rfl (by decide +kernel)
set_option maxRecDepth 65536 in
theorem w_c7 : (Jvm.Cond.code ({ cls := "com/example/eel_river/eelriver/space/CellRange", name := "<init>", desc := "(IIII)V" } : Jvm.MethodName) prog_198_method_1_code (5 : Nat) (Option.none : Option Jvm.ClassFile.FieldType)).before args0 about1 = true := code_word (m := ⟨4, 0⟩) (meth := k4m0) (c := k4c0) (by decide +kernel) rfl rfl rfl (by decide +kernel)
set_option maxRecDepth 65536 in
theorem w_c8 : (Jvm.Cond.code ({ cls := "java/lang/Record", name := "<init>", desc := "()V" } : Jvm.MethodName) jdk_30_method_1_code (1 : Nat) (Option.none : Option Jvm.ClassFile.FieldType)).before args0 about1 = true := code_word (m := ⟨3, 0⟩) (meth := k3m0) (c := k3c0) (by decide +kernel) rfl rfl rfl (by decide +kernel)
set_option maxRecDepth 65536 in
theorem w_c9 : (Jvm.Cond.code ({ cls := "java/lang/Object", name := "<init>", desc := "()V" } : Jvm.MethodName) object_method_1_code (1 : Nat) (Option.none : Option Jvm.ClassFile.FieldType)).before args0 about1 = true := code_word (m := ⟨0, 0⟩) (meth := k0m0) (c := k0c0) (by decide +kernel) rfl rfl rfl (by decide +kernel)
set_option maxRecDepth 65536 in
theorem w_c10 : (Jvm.Cond.code ({ cls := "com/example/eel_river/eelriver/space/CellRange", name := "overlaps", desc := "(Lcom/example/eel_river/eelriver/space/CellRange;)Z" } : Jvm.MethodName) prog_198_method_7_code (2 : Nat) (Option.some Jvm.ClassFile.FieldType.boolean)).before args0 about1 = true := code_word (m := ⟨4, 1⟩) (meth := k4m1) (c := k4c1) (by decide +kernel) rfl rfl rfl (by decide +kernel)
set_option maxRecDepth 65536 in
theorem w_c11 : (Jvm.Cond.code ({ cls := "com/example/eel_river/eelriver/space/CellRangeOverlapsPinLaw", name := "in", desc := "(III)Z" } : Jvm.MethodName) method_7_code (3 : Nat) (Option.some Jvm.ClassFile.FieldType.boolean)).before args0 about1 = true := code_word (m := ⟨1, 6⟩) (meth := k1m6) (c := k1c6) (by decide +kernel) rfl rfl rfl (by decide +kernel)
def codes1 : List Jvm.Cond := [Jvm.Cond.code x code maxLocals ret, Jvm.Cond.code ({ cls := "com/example/eel_river/eelriver/space/CellRangeOverlapsPinLaw", name := "lo", desc := "(J)I" } : Jvm.MethodName) method_5_code (2 : Nat) (Option.some Jvm.ClassFile.FieldType.int), Jvm.Cond.code ({ cls := "com/example/eel_river/eelriver/space/CellRangeOverlapsPinLaw", name := "p", desc := "(J)I" } : Jvm.MethodName) method_3_code (2 : Nat) (Option.some Jvm.ClassFile.FieldType.int), Jvm.Cond.code ({ cls := "com/example/eel_river/eelriver/space/CellRangeOverlapsPinLaw", name := "q", desc := "(J)I" } : Jvm.MethodName) method_4_code (2 : Nat) (Option.some Jvm.ClassFile.FieldType.int), Jvm.Cond.code ({ cls := "java/lang/Math", name := "min", desc := "(II)I" } : Jvm.MethodName) jdk_29_method_69_code (2 : Nat) (Option.some Jvm.ClassFile.FieldType.int), Jvm.Cond.code ({ cls := "com/example/eel_river/eelriver/space/CellRangeOverlapsPinLaw", name := "hi", desc := "(J)I" } : Jvm.MethodName) method_6_code (2 : Nat) (Option.some Jvm.ClassFile.FieldType.int), Jvm.Cond.code ({ cls := "java/lang/Math", name := "max", desc := "(II)I" } : Jvm.MethodName) jdk_29_method_65_code (2 : Nat) (Option.some Jvm.ClassFile.FieldType.int), Jvm.Cond.code ({ cls := "com/example/eel_river/eelriver/space/CellRange", name := "<init>", desc := "(IIII)V" } : Jvm.MethodName) prog_198_method_1_code (5 : Nat) (Option.none : Option Jvm.ClassFile.FieldType), Jvm.Cond.code ({ cls := "java/lang/Record", name := "<init>", desc := "()V" } : Jvm.MethodName) jdk_30_method_1_code (1 : Nat) (Option.none : Option Jvm.ClassFile.FieldType), Jvm.Cond.code ({ cls := "java/lang/Object", name := "<init>", desc := "()V" } : Jvm.MethodName) object_method_1_code (1 : Nat) (Option.none : Option Jvm.ClassFile.FieldType), Jvm.Cond.code ({ cls := "com/example/eel_river/eelriver/space/CellRange", name := "overlaps", desc := "(Lcom/example/eel_river/eelriver/space/CellRange;)Z" } : Jvm.MethodName) prog_198_method_7_code (2 : Nat) (Option.some Jvm.ClassFile.FieldType.boolean), Jvm.Cond.code ({ cls := "com/example/eel_river/eelriver/space/CellRangeOverlapsPinLaw", name := "in", desc := "(III)Z" } : Jvm.MethodName) method_7_code (3 : Nat) (Option.some Jvm.ClassFile.FieldType.boolean)]
set_option maxRecDepth 65536 in
theorem codes_eq : words1.filter isCode = codes1 := rfl
theorem w_codes : ∀ c ∈ words1.filter isCode, c.before args0 about1 = true := by
  rw [codes_eq]
  intro c hc
  simp only [codes1, List.mem_cons, List.not_mem_nil, or_false] at hc
  rcases hc with rfl | rfl | rfl | rfl | rfl | rfl | rfl | rfl | rfl | rfl | rfl | rfl
  · exact w_c0
  · exact w_c1
  · exact w_c2
  · exact w_c3
  · exact w_c4
  · exact w_c5
  · exact w_c6
  · exact w_c7
  · exact w_c8
  · exact w_c9
  · exact w_c10
  · exact w_c11
set_option maxRecDepth 65536 in
theorem w_t1 : (words1.take 24).all (fun c => isCode c || c.before args0 about1) = true := by decide +kernel
set_option maxRecDepth 65536 in
theorem w_t2 : ((words1.drop 24).take 24).all (fun c => isCode c || c.before args0 about1) = true := by decide +kernel
set_option maxRecDepth 65536 in
theorem w_t3 : ((words1.drop 24).drop 24).all (fun c => isCode c || c.before args0 about1) = true := by decide +kernel
theorem w_tables : (allAtoms (Jvm.Cond.code x code maxLocals ret :: tables_1)).before args0 about1 = true := by
  rw [allAtoms_all]
  show words1.all (fun c => c.before args0 about1) = true
  refine all_split ?_ w_codes
  rw [← List.take_append_drop 24 words1, List.all_append, w_t1, ← List.take_append_drop 24 (words1.drop 24), List.all_append, w_t2, w_t3]
  rfl
set_option maxRecDepth 65536 in
theorem w_case : (Jvm.Cond.and given_1 narrow_1).before args0 about1 = true := by decide +kernel
theorem w_applies : (headSpec (Jvm.Cond.code x code maxLocals ret :: tables_1) room_1).applies x e0.platform about1 = true :=
  (Spec.applies_iff w_frames).mpr ⟨w_running, w_runnable, w_alone, w_named, w_hears, w_ripe, w_room, w_tables⟩
theorem atStart : AtStart classFile x code maxLocals ret World_1 tables_1 room_1 Calls_1 rest_1 Pre_1 launch0 p0 e0 about1 theMethod args0 below0 :=
  ⟨lists_1, trivial, launch0.admits_env _ _ _, launch0.least_env, fairChoices_fair.cas, fairChoices_fair.clock, w_frames, w_args, w_heap, w_applies, trivial, trivial, w_case⟩
end start1
theorem witness_1 : WitnessClaimed_1 := ⟨start1.p0, start1.e0, start1.about1, start1.theMethod, start1.args0, start1.below0, start1.atStart⟩
end Jvm.Pilot.@@N@@
