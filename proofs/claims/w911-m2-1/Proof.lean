import JvmDerived
import JvmDerived.Pilot.@@N@@Statement
import JvmDerived.Pilot.@@N@@Code
set_option linter.unusedVariables false
set_option linter.unusedSimpArgs false
namespace Jvm.Pilot.@@N@@
open Jvm Jvm.ClassFile Sem Op Lib Jvm.Free Jvm.Stand Jvm.LawKit Jvm.RoadKit Bundle Jvm.Pilot.@@N@@.Jvm.D
/-- from the state A the run comes to a return of which Q holds -/
def Go (tb : Tables) (e : Env) (below : List Frame) (s : State) (C S : Nat) (Q : Option Value → Heap → List Loc → Prop) (A : State) : Prop :=
  ∃ s₂ o, Steps tb e below A s₂ ∧ s₂.status = .running ∧ Ended s₂ below o ∧ ∃ v L, o = .returned v ∧ Q v s₂.heap L ∧ FrameEnd s o s₂ L C S
theorem go {tb : Tables} {e : Env} {below : List Frame} {s A B : State} {C S : Nat} {Q : Option Value → Heap → List Loc → Prop} (st : ∀ t, Steps tb e below B t → Steps tb e below A t) (h : Go tb e below s C S Q B) : Go tb e below s C S Q A := by
  obtain ⟨s₂, o, h1, h2⟩ := h
  exact ⟨s₂, o, st _ h1, h2⟩
section Rets
variable {p : Program} {l : Launch} {e : Env} {R : Room} {s : State} {m : MethodId} {args : Array Value} {below : List Frame} {meth : Method} {c : Code} {T : State} {locs : List Loc} {cells slots : Nat} {C S : Nat} {Q : Option Value → Heap → List Loc → Prop} {pc : Nat} {Ls : Array Slot} {rest : List Value}
theorem goRetI (X : Stand p l e R s m args below meth c T locs cells slots) (hx : p.tables.exec = Jvm.exec) {z : Int32} (hret : meth.sig.returnType = some .int) (hlk : meth.locks = false) (hd : decode c.code pc = .ok (.ireturn, 1)) (hQ : Q (some (.int z)) T.heap locs) (hc : cells ≤ C) (hs : slots ≤ S) : Go p.tables e below s C S Q (T.setTop (mkF m pc Ls (.int z :: rest))) := by
  obtain ⟨fs, hr, hrun, hended, hW, hsame⟩ := X.leave (v := some (.int z)) (fun h => by rw [hret] at h; cases h) hlk
  exact ⟨_, _, retOut X hx hret rfl (Or.inl ⟨rfl, Or.inl rfl, z, rfl⟩) hd hr, hrun, hended, _, _, rfl, hQ, ⟨_, rfl⟩, hW, hsame.mono hc hs⟩
theorem goRetN (X : Stand p l e R s m args below meth c T locs cells slots) (hx : p.tables.exec = Jvm.exec) {z : Int32} {t : FieldType} (hret : meth.sig.returnType = some t) (ht : t = .boolean ∨ t = .byte ∨ t = .char ∨ t = .short) (hlk : meth.locks = false) (hd : decode c.code pc = .ok (.ireturn, 1)) (hQ : Q (some (.int (nar t z))) T.heap locs) (hc : cells ≤ C) (hs : slots ≤ S) : Go p.tables e below s C S Q (T.setTop (mkF m pc Ls (.int z :: rest))) := by
  obtain ⟨fs, hr, hrun, hended, hW, hsame⟩ := X.leave (v := some (.int (nar t z))) (fun h => by rw [hret] at h; cases h) hlk
  exact ⟨_, _, retN X hx hret ht hd hr, hrun, hended, _, _, rfl, hQ, ⟨_, rfl⟩, hW, hsame.mono hc hs⟩
theorem goRetL (X : Stand p l e R s m args below meth c T locs cells slots) (hx : p.tables.exec = Jvm.exec) {z : Int64} (hret : meth.sig.returnType = some .long) (hlk : meth.locks = false) (hd : decode c.code pc = .ok (.lreturn, 1)) (hQ : Q (some (.long z)) T.heap locs) (hc : cells ≤ C) (hs : slots ≤ S) : Go p.tables e below s C S Q (T.setTop (mkF m pc Ls (.long z :: rest))) := by
  obtain ⟨fs, hr, hrun, hended, hW, hsame⟩ := X.leave (v := some (.long z)) (fun h => by rw [hret] at h; cases h) hlk
  exact ⟨_, _, retOut X hx hret rfl (Or.inr (Or.inl ⟨rfl, rfl, z, rfl⟩)) hd hr, hrun, hended, _, _, rfl, hQ, ⟨_, rfl⟩, hW, hsame.mono hc hs⟩
theorem goRetR (X : Stand p l e R s m args below meth c T locs cells slots) (hx : p.tables.exec = Jvm.exec) {a : Addr} {t : FieldType} (hret : meth.sig.returnType = some t) (ht : t.isReference = true) (hlk : meth.locks = false) (hd : decode c.code pc = .ok (.areturn, 1)) (hQ : Q (some (.ref a)) T.heap locs) (hc : cells ≤ C) (hs : slots ≤ S) : Go p.tables e below s C S Q (T.setTop (mkF m pc Ls (.ref a :: rest))) := by
  obtain ⟨fs, hr, hrun, hended, hW, hsame⟩ := X.leave (v := some (.ref a)) (fun h => by rw [hret] at h; cases h) hlk
  exact ⟨_, _, retOut X hx hret (by cases t <;> first | rfl | cases ht) (Or.inr (Or.inr (Or.inr (Or.inr ⟨rfl, ht, rfl⟩)))) hd hr, hrun, hended, _, _, rfl, hQ, ⟨_, rfl⟩, hW, hsame.mono hc hs⟩
theorem goRetV (X : Stand p l e R s m args below meth c T locs cells slots) (hx : p.tables.exec = Jvm.exec) (hret : meth.sig.returnType = none) (hlk : meth.locks = false) (hd : decode c.code pc = .ok (.return_, 1)) (hQ : Q none T.heap locs) (hc : cells ≤ C) (hs : slots ≤ S) : Go p.tables e below s C S Q (T.setTop (mkF m pc Ls [])) := by
  obtain ⟨fs, hr, hrun, hended, hW, hsame⟩ := X.leave (v := none) (fun _ => rfl) hlk
  exact ⟨_, _, X.returnOut hx hret hd hr, hrun, hended, _, _, rfl, hQ, ⟨_, rfl⟩, hW, hsame.mono hc hs⟩
end Rets
theorem lc_lt_yes {x y : Int64} (h : x < y) : ifCond.holds .lt (lcmpW x y) = true := by
  have h1 : ¬ y < x := by rw [Int64.lt_iff_toInt_lt] at h ⊢; omega
  have h2 : ¬ x = y := fun q => by subst q; rw [Int64.lt_iff_toInt_lt] at h; omega
  simp [lcmpW, h1, h2]; decide
theorem lc_lt_no {x y : Int64} (h : ¬ x < y) : ifCond.holds .lt (lcmpW x y) = false := by
  by_cases h1 : y < x
  · simp [lcmpW, h1]; decide
  · have h2 : x = y := by rw [← Int64.toInt_inj]; rw [Int64.lt_iff_toInt_lt] at h h1; omega
    simp [lcmpW, h1, h2]; decide
theorem lc_ge_no {x y : Int64} (h : x < y) : ifCond.holds .ge (lcmpW x y) = false := by
  have h1 : ¬ y < x := by rw [Int64.lt_iff_toInt_lt] at h ⊢; omega
  have h2 : ¬ x = y := fun q => by subst q; rw [Int64.lt_iff_toInt_lt] at h; omega
  simp [lcmpW, h1, h2]; decide
theorem lc_ge_yes {x y : Int64} (h : ¬ x < y) : ifCond.holds .ge (lcmpW x y) = true := by
  by_cases h1 : y < x
  · simp [lcmpW, h1]; decide
  · have h2 : x = y := by rw [← Int64.toInt_inj]; rw [Int64.lt_iff_toInt_lt] at h h1; omega
    simp [lcmpW, h1, h2]; decide
theorem lc_gt_yes {x y : Int64} (h : y < x) : ifCond.holds .gt (lcmpW x y) = true := by
  simp [lcmpW, h]; decide
theorem lc_gt_no {x y : Int64} (h : ¬ y < x) : ifCond.holds .gt (lcmpW x y) = false := by
  by_cases h2 : x = y <;> simp [lcmpW, h, h2] <;> decide
theorem lc_le_no {x y : Int64} (h : y < x) : ifCond.holds .le (lcmpW x y) = false := by
  simp [lcmpW, h]; decide
theorem lc_le_yes {x y : Int64} (h : ¬ y < x) : ifCond.holds .le (lcmpW x y) = true := by
  by_cases h2 : x = y <;> simp [lcmpW, h, h2] <;> decide
theorem lc_eq_yes {x y : Int64} (h : x = y) : ifCond.holds .eq (lcmpW x y) = true := by
  subst h; simp [lcmpW]; decide
theorem lc_eq_no {x y : Int64} (h : ¬ x = y) : ifCond.holds .eq (lcmpW x y) = false := by
  by_cases h1 : y < x <;> simp [lcmpW, h, h1] <;> decide
theorem lc_ne_no {x y : Int64} (h : x = y) : ifCond.holds .ne (lcmpW x y) = false := by
  subst h; simp [lcmpW]; decide
theorem lc_ne_yes {x y : Int64} (h : ¬ x = y) : ifCond.holds .ne (lcmpW x y) = true := by
  by_cases h1 : y < x <;> simp [lcmpW, h, h1] <;> decide
section XD
variable {tb : Tables} [Ours tb] {e : Env} {below : List Frame} {T target : State} {m : MethodId} {c : Code} {g : JFrame}
theorem XD.i2d (h : At T m c below) (hx : tb.exec = Jvm.exec) (hg : g.method = m) {x : Int32} {rest : List Value} (hd : decode c.code g.pc = .ok (.i2d, 1)) (hs : g.stack = .int x :: rest)
    (hr : Steps tb e below (T.setTop { g with pc := g.pc + 1, stack := .double (FP.i2d x) :: rest }) target) : Steps tb e below (T.setTop g) target := by
  subst hg
  jvm_step h [h.top, hx, hd, hs]
  exact hr
theorem XD.dloadN (h : At T m c below) (hx : tb.exec = Jvm.exec) (hg : g.method = m) {k : Fin 4} {v : UInt64} (hd : decode c.code g.pc = .ok (.dload_n k, 1)) (hl : g.locals[k.val]? = some (.val (.double v)))
    (hr : Steps tb e below (T.setTop { g with pc := g.pc + 1, stack := .double v :: g.stack }) target) : Steps tb e below (T.setTop g) target := by
  subst hg
  jvm_step h [h.top, hx, hd, hl]
  exact hr
theorem XD.dload (h : At T m c below) (hx : tb.exec = Jvm.exec) (hg : g.method = m) {k : Nat} {v : UInt64} (hd : decode c.code g.pc = .ok (.dload k, 2)) (hl : g.locals[k]? = some (.val (.double v)))
    (hr : Steps tb e below (T.setTop { g with pc := g.pc + 2, stack := .double v :: g.stack }) target) : Steps tb e below (T.setTop g) target := by
  subst hg
  jvm_step h [h.top, hx, hd, hl]
  exact hr
theorem XD.dcmp (h : At T m c below) (hx : tb.exec = Jvm.exec) (hg : g.method = m) {x y : UInt64} {rest : List Value} {o : CmpOp} {z : Int32} (hd : decode c.code g.pc = .ok (.dcmp o, 1)) (hs : g.stack = .double y :: .double x :: rest) (hz : cmpValue (FP.dcmp x y) o = z)
    (hr : Steps tb e below (T.setTop { g with pc := g.pc + 1, stack := .int z :: rest }) target) : Steps tb e below (T.setTop g) target := by
  subst hg hz
  jvm_step h [h.top, hx, hd, hs, dcmp.wp_sem]
  exact hr
end XD
theorem XD.lt {i j : Int} {x y : UInt64} {o : CmpOp} (hx : FP.Core.DInt i x) (hy : FP.Core.DInt j y) (h : i < j) : cmpValue (FP.dcmp x y) o = -1 := by
  rw [show FP.dcmp x y = some (compare i j) from FP.Core.dcmp_int hx hy, show compare i j = .lt from Int.compare_eq_lt.mpr h]; rfl
theorem XD.eq {i j : Int} {x y : UInt64} {o : CmpOp} (hx : FP.Core.DInt i x) (hy : FP.Core.DInt j y) (h : i = j) : cmpValue (FP.dcmp x y) o = 0 := by
  rw [show FP.dcmp x y = some (compare i j) from FP.Core.dcmp_int hx hy, show compare i j = .eq from Int.compare_eq_eq.mpr h]; rfl
theorem XD.gt {i j : Int} {x y : UInt64} {o : CmpOp} (hx : FP.Core.DInt i x) (hy : FP.Core.DInt j y) (h : j < i) : cmpValue (FP.dcmp x y) o = 1 := by
  rw [show FP.dcmp x y = some (compare i j) from FP.Core.dcmp_int hx hy, show compare i j = .gt from Int.compare_eq_gt.mpr h]; rfl
def fMx (a b : Int32) : Int32 := if a < b then b else a
theorem fMx_int (a b : Int32) : ((fMx a b).toInt = b.toInt ∧ a.toInt < b.toInt) ∨ ((fMx a b).toInt = a.toInt ∧ ¬ a.toInt < b.toInt) := by
  unfold fMx
  by_cases h : a < b
  · rw [if_pos h]; exact Or.inl ⟨rfl, Int32.lt_iff_toInt_lt.mp h⟩
  · rw [if_neg h]; exact Or.inr ⟨rfl, fun q => h (Int32.lt_iff_toInt_lt.mpr q)⟩
def fMn (a b : Int32) : Int32 := if b < a then b else a
theorem fMn_int (a b : Int32) : ((fMn a b).toInt = b.toInt ∧ b.toInt < a.toInt) ∨ ((fMn a b).toInt = a.toInt ∧ ¬ b.toInt < a.toInt) := by
  unfold fMn
  by_cases h : b < a
  · rw [if_pos h]; exact Or.inl ⟨rfl, Int32.lt_iff_toInt_lt.mp h⟩
  · rw [if_neg h]; exact Or.inr ⟨rfl, fun q => h (Int32.lt_iff_toInt_lt.mpr q)⟩
def fWi (p1 : Int32) (p2 : Int32) (p3 : Int32) : Int32 := if p1.toInt ≤ p3.toInt ∧ p3.toInt ≤ p2.toInt then 1 else 0
theorem fWi_one {p1 : Int32} {p2 : Int32} {p3 : Int32} (h : p1.toInt ≤ p3.toInt ∧ p3.toInt ≤ p2.toInt) : fWi p1 p2 p3 = 1 := if_pos h
theorem fWi_zero {p1 : Int32} {p2 : Int32} {p3 : Int32} (h : ¬ (p1.toInt ≤ p3.toInt ∧ p3.toInt ≤ p2.toInt)) : fWi p1 p2 p3 = 0 := if_neg h
theorem fWi_int (p1 : Int32) (p2 : Int32) (p3 : Int32) : ((fWi p1 p2 p3).toInt = 1 ∧ (p1.toInt ≤ p3.toInt ∧ p3.toInt ≤ p2.toInt)) ∨ ((fWi p1 p2 p3).toInt = 0 ∧ ¬ (p1.toInt ≤ p3.toInt ∧ p3.toInt ≤ p2.toInt)) := by
  by_cases h : p1.toInt ≤ p3.toInt ∧ p3.toInt ≤ p2.toInt
  · exact Or.inl ⟨by rw [fWi_one h]; rfl, h⟩
  · exact Or.inr ⟨by rw [fWi_zero h]; rfl, h⟩
def fRC (j1 : Int) (j2 : Int) (j3 : Int) (j4 : Int) (j5 : Int) (j6 : Int) : Int32 := if j1 ≤ j5 ∧ j5 ≤ j3 ∧ j2 ≤ j6 ∧ j6 ≤ j4 then 1 else 0
theorem fRC_one {j1 : Int} {j2 : Int} {j3 : Int} {j4 : Int} {j5 : Int} {j6 : Int} (h : j1 ≤ j5 ∧ j5 ≤ j3 ∧ j2 ≤ j6 ∧ j6 ≤ j4) : fRC j1 j2 j3 j4 j5 j6 = 1 := if_pos h
theorem fRC_zero {j1 : Int} {j2 : Int} {j3 : Int} {j4 : Int} {j5 : Int} {j6 : Int} (h : ¬ (j1 ≤ j5 ∧ j5 ≤ j3 ∧ j2 ≤ j6 ∧ j6 ≤ j4)) : fRC j1 j2 j3 j4 j5 j6 = 0 := if_neg h
theorem fRC_int (j1 : Int) (j2 : Int) (j3 : Int) (j4 : Int) (j5 : Int) (j6 : Int) : ((fRC j1 j2 j3 j4 j5 j6).toInt = 1 ∧ (j1 ≤ j5 ∧ j5 ≤ j3 ∧ j2 ≤ j6 ∧ j6 ≤ j4)) ∨ ((fRC j1 j2 j3 j4 j5 j6).toInt = 0 ∧ ¬ (j1 ≤ j5 ∧ j5 ≤ j3 ∧ j2 ≤ j6 ∧ j6 ≤ j4)) := by
  by_cases h : j1 ≤ j5 ∧ j5 ≤ j3 ∧ j2 ≤ j6 ∧ j6 ≤ j4
  · exact Or.inl ⟨by rw [fRC_one h]; rfl, h⟩
  · exact Or.inr ⟨by rw [fRC_zero h]; rfl, h⟩
theorem ef_rm4 (m : MethodId) (p1 : Int32) (p2 : Int32) : entryFrame m #[(.int p1), (.int p2)] 2 = mkF m 0 #[.val (.int p1), .val (.int p2)] [] := by first | (simp [entryFrame, mkF, argsToLocals, Value.category]; done) | rfl
def Q4 (Z : State) (p1 : Int32) (p2 : Int32) (h0 : Heap) (n0 : Nat) (v : Option Value) (h : Heap) (L : List Loc) : Prop := v = some (.int (fMx p1 p2)) ∧ Fr n0 L ∧ h = h0
theorem d4_0 : decode jdk_29_method_65_code 0 = .ok (.iload_n 0, 1) := by decide +kernel
theorem d4_1 : decode jdk_29_method_65_code 1 = .ok (.iload_n 1, 1) := by decide +kernel
theorem d4_2 : decode jdk_29_method_65_code 2 = .ok (.if_icmp .lt 7, 3) := by decide +kernel
theorem d4_9 : decode jdk_29_method_65_code 9 = .ok (.iload_n 1, 1) := by decide +kernel
theorem d4_10 : decode jdk_29_method_65_code 10 = .ok (.ireturn, 1) := by decide +kernel
theorem d4_5 : decode jdk_29_method_65_code 5 = .ok (.iload_n 0, 1) := by decide +kernel
theorem d4_6 : decode jdk_29_method_65_code 6 = .ok (.goto 4, 3) := by decide +kernel
set_option maxRecDepth 65536 in
set_option maxHeartbeats 40000000 in
theorem rm4 (l : Launch) (Z : State) (a0 : Array Value) (hw : ∀ d ∈ tables_1, d.before a0 Z = true) (ws : List Jvm.Cond) (p1 : Int32) (p2 : Int32) (h0 : Heap) (n0 : Nat) (Z0 : n0 ≤ h0.size) :
    MetFree l (⟨"java/lang/Math", "max", "(II)I"⟩ : MethodName) (head1 (Jvm.Cond.code (⟨"java/lang/Math", "max", "(II)I"⟩ : MethodName) jdk_29_method_65_code 2 (some .int) :: ws) ({ frames := 0, cells := 0, slots := 0, locals := 0 } : Room)) (fun a U => a = #[(.int p1), (.int p2)] ∧ Z.Warmed39 U.vm ∧ U.heap = h0) (fun _ _ _ _ _ => True) (fun _ U o U' => ∃ v L, o = .returned v ∧ Q4 Z p1 p2 h0 n0 v U'.heap L ∧ FrameEnd U o U' L ({ frames := 0, cells := 0, slots := 0, locals := 0 } : Room).cells ({ frames := 0, cells := 0, slots := 0, locals := 0 } : Room).slots) := by
  refine MetFree.of_bodySF (Jvm.Free.JP.mathPlain rfl (by decide +kernel)) hisR ?_
  intro p e s m args below meth c s₁ Bd hml0 hP hK
  obtain ⟨rfl, hZ, hh⟩ := hP
  have hx := Bd.exec
  have hby := Bd.bytes
  have hml : c.maxLocals = 2 := hml0
  have hown : s.vm.findClass "java/lang/Math" = some m.cls := findClass_of_methodNamed Bd.named
  have hnm := (name_of_methodNamed Bd.named Bd.method).1
  have hlk := Bd.notSynchronized
  have X0 : Stand p l e ({ frames := 0, cells := 0, slots := 0, locals := 0 } : Room) s m #[(.int p1), (.int p2)] below meth c s₁ [] 0 0 := Stand.of_body Bd
  have e0 : s₁.heap = h0 := by rw [← hh, Bd.state]; rfl
  have N0 := Fr.nil n0
  show Go p.tables e below s ({ frames := 0, cells := 0, slots := 0, locals := 0 } : Room).cells ({ frames := 0, cells := 0, slots := 0, locals := 0 } : Room).slots (Q4 Z p1 p2 h0 n0) _
  refine go (fun t k => castTop (ef_rm4 m p1 p2) k) ?_
  refine go (B := s₁.setTop (mkF m 1 #[.val (.int p1), .val (.int p2)] [(.int p1)])) (fun _ k => XS.iloadN X0.here hx rfl (hb hby d4_0) rfl k) ?_
  refine go (B := s₁.setTop (mkF m 2 #[.val (.int p1), .val (.int p2)] [(.int p2), (.int p1)])) (fun _ k => XS.iloadN X0.here hx rfl (hb hby d4_1) rfl k) ?_
  by_cases hc2 : p1 < p2
  · refine go (B := s₁.setTop (mkF m 9 #[.val (.int p1), .val (.int p2)] [])) (fun _ k => XS.icmpYes X0.here hx rfl (pc0 := 2) (pc' := 9) rfl (hb hby d4_2) rfl (tlt hc2).1 (by decide) (by decide) k) ?_
    refine go (B := s₁.setTop (mkF m 10 #[.val (.int p1), .val (.int p2)] [(.int p2)])) (fun _ k => XS.iloadN X0.here hx rfl (hb hby d4_9) rfl k) ?_
    refine goRetI X0 hx Bd.returns hlk (hb hby d4_10) ?_ (by decide) (by decide)
    rw [e0]
    exact ⟨by rw [fMx, if_pos hc2], N0, rfl⟩
  · refine go (B := s₁.setTop (mkF m 5 #[.val (.int p1), .val (.int p2)] [])) (fun _ k => XS.icmpNo X0.here hx rfl (hb hby d4_2) rfl (flt hc2).1 k) ?_
    refine go (B := s₁.setTop (mkF m 6 #[.val (.int p1), .val (.int p2)] [(.int p1)])) (fun _ k => XS.iloadN X0.here hx rfl (hb hby d4_5) rfl k) ?_
    refine go (B := s₁.setTop (mkF m 10 #[.val (.int p1), .val (.int p2)] [(.int p1)])) (fun _ k => XS.goto X0.here hx rfl (pc0 := 6) (pc' := 10) rfl (hb hby d4_6) (by decide) (by decide) k) ?_
    refine goRetI X0 hx Bd.returns hlk (hb hby d4_10) ?_ (by decide) (by decide)
    rw [e0]
    exact ⟨by rw [fMx, if_neg hc2], N0, rfl⟩
theorem ef_rm3 (m : MethodId) (p1 : Int32) (p2 : Int32) : entryFrame m #[(.int p1), (.int p2)] 2 = mkF m 0 #[.val (.int p1), .val (.int p2)] [] := by first | (simp [entryFrame, mkF, argsToLocals, Value.category]; done) | rfl
def Q3 (Z : State) (p1 : Int32) (p2 : Int32) (h0 : Heap) (n0 : Nat) (v : Option Value) (h : Heap) (L : List Loc) : Prop := v = some (.int (fMn p1 p2)) ∧ Fr n0 L ∧ h = h0
theorem d3_0 : decode jdk_29_method_69_code 0 = .ok (.iload_n 0, 1) := by decide +kernel
theorem d3_1 : decode jdk_29_method_69_code 1 = .ok (.iload_n 1, 1) := by decide +kernel
theorem d3_2 : decode jdk_29_method_69_code 2 = .ok (.if_icmp .gt 7, 3) := by decide +kernel
theorem d3_9 : decode jdk_29_method_69_code 9 = .ok (.iload_n 1, 1) := by decide +kernel
theorem d3_10 : decode jdk_29_method_69_code 10 = .ok (.ireturn, 1) := by decide +kernel
theorem d3_5 : decode jdk_29_method_69_code 5 = .ok (.iload_n 0, 1) := by decide +kernel
theorem d3_6 : decode jdk_29_method_69_code 6 = .ok (.goto 4, 3) := by decide +kernel
set_option maxRecDepth 65536 in
set_option maxHeartbeats 40000000 in
theorem rm3 (l : Launch) (Z : State) (a0 : Array Value) (hw : ∀ d ∈ tables_1, d.before a0 Z = true) (ws : List Jvm.Cond) (p1 : Int32) (p2 : Int32) (h0 : Heap) (n0 : Nat) (Z0 : n0 ≤ h0.size) :
    MetFree l (⟨"java/lang/Math", "min", "(II)I"⟩ : MethodName) (head1 (Jvm.Cond.code (⟨"java/lang/Math", "min", "(II)I"⟩ : MethodName) jdk_29_method_69_code 2 (some .int) :: ws) ({ frames := 0, cells := 0, slots := 0, locals := 0 } : Room)) (fun a U => a = #[(.int p1), (.int p2)] ∧ Z.Warmed39 U.vm ∧ U.heap = h0) (fun _ _ _ _ _ => True) (fun _ U o U' => ∃ v L, o = .returned v ∧ Q3 Z p1 p2 h0 n0 v U'.heap L ∧ FrameEnd U o U' L ({ frames := 0, cells := 0, slots := 0, locals := 0 } : Room).cells ({ frames := 0, cells := 0, slots := 0, locals := 0 } : Room).slots) := by
  refine MetFree.of_bodySF (Jvm.Free.JP.mathPlain rfl (by decide +kernel)) hisR ?_
  intro p e s m args below meth c s₁ Bd hml0 hP hK
  obtain ⟨rfl, hZ, hh⟩ := hP
  have hx := Bd.exec
  have hby := Bd.bytes
  have hml : c.maxLocals = 2 := hml0
  have hown : s.vm.findClass "java/lang/Math" = some m.cls := findClass_of_methodNamed Bd.named
  have hnm := (name_of_methodNamed Bd.named Bd.method).1
  have hlk := Bd.notSynchronized
  have X0 : Stand p l e ({ frames := 0, cells := 0, slots := 0, locals := 0 } : Room) s m #[(.int p1), (.int p2)] below meth c s₁ [] 0 0 := Stand.of_body Bd
  have e0 : s₁.heap = h0 := by rw [← hh, Bd.state]; rfl
  have N0 := Fr.nil n0
  show Go p.tables e below s ({ frames := 0, cells := 0, slots := 0, locals := 0 } : Room).cells ({ frames := 0, cells := 0, slots := 0, locals := 0 } : Room).slots (Q3 Z p1 p2 h0 n0) _
  refine go (fun t k => castTop (ef_rm3 m p1 p2) k) ?_
  refine go (B := s₁.setTop (mkF m 1 #[.val (.int p1), .val (.int p2)] [(.int p1)])) (fun _ k => XS.iloadN X0.here hx rfl (hb hby d3_0) rfl k) ?_
  refine go (B := s₁.setTop (mkF m 2 #[.val (.int p1), .val (.int p2)] [(.int p2), (.int p1)])) (fun _ k => XS.iloadN X0.here hx rfl (hb hby d3_1) rfl k) ?_
  by_cases hc2 : p2 < p1
  · refine go (B := s₁.setTop (mkF m 9 #[.val (.int p1), .val (.int p2)] [])) (fun _ k => XS.icmpYes X0.here hx rfl (pc0 := 2) (pc' := 9) rfl (hb hby d3_2) rfl (tlt hc2).2.2.1 (by decide) (by decide) k) ?_
    refine go (B := s₁.setTop (mkF m 10 #[.val (.int p1), .val (.int p2)] [(.int p2)])) (fun _ k => XS.iloadN X0.here hx rfl (hb hby d3_9) rfl k) ?_
    refine goRetI X0 hx Bd.returns hlk (hb hby d3_10) ?_ (by decide) (by decide)
    rw [e0]
    exact ⟨by rw [fMn, if_pos hc2], N0, rfl⟩
  · refine go (B := s₁.setTop (mkF m 5 #[.val (.int p1), .val (.int p2)] [])) (fun _ k => XS.icmpNo X0.here hx rfl (hb hby d3_2) rfl (flt hc2).2.2.1 k) ?_
    refine go (B := s₁.setTop (mkF m 6 #[.val (.int p1), .val (.int p2)] [(.int p1)])) (fun _ k => XS.iloadN X0.here hx rfl (hb hby d3_5) rfl k) ?_
    refine go (B := s₁.setTop (mkF m 10 #[.val (.int p1), .val (.int p2)] [(.int p1)])) (fun _ k => XS.goto X0.here hx rfl (pc0 := 6) (pc' := 10) rfl (hb hby d3_6) (by decide) (by decide) k) ?_
    refine goRetI X0 hx Bd.returns hlk (hb hby d3_10) ?_ (by decide) (by decide)
    rw [e0]
    exact ⟨by rw [fMn, if_neg hc2], N0, rfl⟩
theorem pn_com_example_eel_river_eelriver_space_RectangleContainsPinLaw : plainName "com/example/eel_river/eelriver/space/RectangleContainsPinLaw" = true := by first | (simp [plainName, overriddenIn]; done) | decide +kernel
theorem ef_rm2 (m : MethodId) (p1 : Int32) (p2 : Int32) (p3 : Int32) : entryFrame m #[(.int p1), (.int p2), (.int p3)] 3 = mkF m 0 #[.val (.int p1), .val (.int p2), .val (.int p3)] [] := by first | (simp [entryFrame, mkF, argsToLocals, Value.category]; done) | rfl
def Q2 (Z : State) (p1 : Int32) (p2 : Int32) (p3 : Int32) (h0 : Heap) (n0 : Nat) (v : Option Value) (h : Heap) (L : List Loc) : Prop := v = some (.int (fWi p1 p2 p3)) ∧ Fr n0 L ∧ h = h0
theorem d2_0 : decode method_3_code 0 = .ok (.iload_n 0, 1) := by decide +kernel
theorem d2_1 : decode method_3_code 1 = .ok (.iload_n 1, 1) := by decide +kernel
theorem d2_2 : decode method_3_code 2 = .ok (.if_icmp .gt 20, 3) := by decide +kernel
theorem d2_22 : decode method_3_code 22 = .ok (.iconst 0, 1) := by decide +kernel
theorem d2_23 : decode method_3_code 23 = .ok (.ireturn, 1) := by decide +kernel
theorem d2_5 : decode method_3_code 5 = .ok (.iload_n 0, 1) := by decide +kernel
theorem d2_6 : decode method_3_code 6 = .ok (.iload_n 1, 1) := by decide +kernel
theorem d2_7 : decode method_3_code 7 = .ok (.iload_n 2, 1) := by decide +kernel
theorem d2_8 : decode method_3_code 8 = .ok (.invokestatic 19, 3) := by decide +kernel
theorem pd__II_I : parseMethodDescriptor "(II)I" = some ⟨[.int, .int], some .int⟩ := by decide +kernel
theorem d2_11 : decode method_3_code 11 = .ok (.invokestatic 25, 3) := by decide +kernel
theorem d2_14 : decode method_3_code 14 = .ok (.iload_n 2, 1) := by decide +kernel
theorem d2_15 : decode method_3_code 15 = .ok (.if_icmp .ne 7, 3) := by decide +kernel
theorem d2_18 : decode method_3_code 18 = .ok (.iconst 1, 1) := by decide +kernel
theorem d2_19 : decode method_3_code 19 = .ok (.goto 4, 3) := by decide +kernel
set_option maxRecDepth 65536 in
set_option maxHeartbeats 40000000 in
theorem rm2 (l : Launch) (Z : State) (a0 : Array Value) (hw : ∀ d ∈ tables_1, d.before a0 Z = true) (ws : List Jvm.Cond) (p1 : Int32) (p2 : Int32) (p3 : Int32) (h0 : Heap) (n0 : Nat) (Z0 : n0 ≤ h0.size) :
    MetFree l (⟨"com/example/eel_river/eelriver/space/RectangleContainsPinLaw", "within", "(III)Z"⟩ : MethodName) (head1 (Jvm.Cond.code (⟨"com/example/eel_river/eelriver/space/RectangleContainsPinLaw", "within", "(III)Z"⟩ : MethodName) method_3_code 3 (some .boolean) :: ws) ({ frames := 1, cells := 0, slots := 0, locals := 20 } : Room)) (fun a U => a = #[(.int p1), (.int p2), (.int p3)] ∧ Z.Warmed39 U.vm ∧ U.heap = h0) (fun _ _ _ _ _ => True) (fun _ U o U' => ∃ v L, o = .returned v ∧ Q2 Z p1 p2 p3 h0 n0 v U'.heap L ∧ FrameEnd U o U' L ({ frames := 1, cells := 0, slots := 0, locals := 20 } : Room).cells ({ frames := 1, cells := 0, slots := 0, locals := 20 } : Room).slots) := by
  refine MetFree.of_bodySF (plainFor_of_name pn_com_example_eel_river_eelriver_space_RectangleContainsPinLaw) hisR ?_
  intro p e s m args below meth c s₁ Bd hml0 hP hK
  obtain ⟨rfl, hZ, hh⟩ := hP
  have hx := Bd.exec
  have hby := Bd.bytes
  have hml : c.maxLocals = 3 := hml0
  have hown : s.vm.findClass "com/example/eel_river/eelriver/space/RectangleContainsPinLaw" = some m.cls := findClass_of_methodNamed Bd.named
  have hnm := (name_of_methodNamed Bd.named Bd.method).1
  have hlk := Bd.notSynchronized
  have X0 : Stand p l e ({ frames := 1, cells := 0, slots := 0, locals := 20 } : Room) s m #[(.int p1), (.int p2), (.int p3)] below meth c s₁ [] 0 0 := Stand.of_body Bd
  have e0 : s₁.heap = h0 := by rw [← hh, Bd.state]; rfl
  have N0 := Fr.nil n0
  show Go p.tables e below s ({ frames := 1, cells := 0, slots := 0, locals := 20 } : Room).cells ({ frames := 1, cells := 0, slots := 0, locals := 20 } : Room).slots (Q2 Z p1 p2 p3 h0 n0) _
  refine go (fun t k => castTop (ef_rm2 m p1 p2 p3) k) ?_
  refine go (B := s₁.setTop (mkF m 1 #[.val (.int p1), .val (.int p2), .val (.int p3)] [(.int p1)])) (fun _ k => XS.iloadN X0.here hx rfl (hb hby d2_0) rfl k) ?_
  refine go (B := s₁.setTop (mkF m 2 #[.val (.int p1), .val (.int p2), .val (.int p3)] [(.int p2), (.int p1)])) (fun _ k => XS.iloadN X0.here hx rfl (hb hby d2_1) rfl k) ?_
  by_cases hc2 : p2 < p1
  · refine go (B := s₁.setTop (mkF m 22 #[.val (.int p1), .val (.int p2), .val (.int p3)] [])) (fun _ k => XS.icmpYes X0.here hx rfl (pc0 := 2) (pc' := 22) rfl (hb hby d2_2) rfl (tlt hc2).2.2.1 (by decide) (by decide) k) ?_
    refine go (B := s₁.setTop (mkF m 23 #[.val (.int p1), .val (.int p2), .val (.int p3)] [(.int (0 : Int32))])) (fun _ k => XS.iconst X0.here hx rfl (hb hby d2_22) k) ?_
    refine goRetN X0 hx (t := .boolean) Bd.returns (by simp) hlk (hb hby d2_23) ?_ (by decide) (by decide)
    rw [e0]
    have q : fWi p1 p2 p3 = (0 : Int32) := fWi_zero (by have m1 := fMn_int p2 p3; have m2 := fMx_int p1 (fMn p2 p3); simp only [Int32.lt_iff_toInt_lt, Int64.lt_iff_toInt_lt, ← Int32.toInt_inj, ← Int64.toInt_inj, Int32.reduceToInt, Int64.reduceToInt] at hc2; omega)
    exact ⟨by rw [q]; rfl, N0, rfl⟩
  · refine go (B := s₁.setTop (mkF m 5 #[.val (.int p1), .val (.int p2), .val (.int p3)] [])) (fun _ k => XS.icmpNo X0.here hx rfl (hb hby d2_2) rfl (flt hc2).2.2.1 k) ?_
    refine go (B := s₁.setTop (mkF m 6 #[.val (.int p1), .val (.int p2), .val (.int p3)] [(.int p1)])) (fun _ k => XS.iloadN X0.here hx rfl (hb hby d2_5) rfl k) ?_
    refine go (B := s₁.setTop (mkF m 7 #[.val (.int p1), .val (.int p2), .val (.int p3)] [(.int p2), (.int p1)])) (fun _ k => XS.iloadN X0.here hx rfl (hb hby d2_6) rfl k) ?_
    refine go (B := s₁.setTop (mkF m 8 #[.val (.int p1), .val (.int p2), .val (.int p3)] [(.int p3), (.int p2), (.int p1)])) (fun _ k => XS.iloadN X0.here hx rfl (hb hby d2_7) rfl k) ?_
    obtain ⟨_, _, ⟨T1, L1, k1, n1⟩, -, X1, ⟨Lc1, hQ1, l1, y1, z1⟩, st1⟩ := Jvm.LawKit.callS X0 hx (y := (⟨"java/lang/Math", "min", "(II)I"⟩ : MethodName)) hown (mvT hZ (hw _ (List.mem_of_getElem? (i := 8) rfl))) (mvT hZ (hw _ (List.mem_of_getElem? (i := 9) rfl))) (mvT hZ (hw _ (List.mem_of_getElem? (i := 10) rfl))) (mvT hZ (hw _ (List.mem_of_getElem? (i := 11) rfl))) (by decide) (backOf (W := 1) (rm3 l Z a0 hw [] p2 p3 h0 n0 Z0) hZ (hw _ (List.mem_of_getElem? (i := 11) rfl)) (hw _ (List.mem_of_getElem? (i := 10) rfl)) (by decide) (by decide)) (g := (mkF m 8 #[.val (.int p1), .val (.int p2), .val (.int p3)] [(.int p3), (.int p2), (.int p1)])) rfl (by rw [hml]; rfl) (argsL := [(.int p2), (.int p3)]) (rest := [(.int p1)]) (lenOf pd__II_I rfl) rfl (by show 2 * 0 + _ ≤ _; exact Nat.le_of_eq rfl) (hb hby d2_8) (fun _ _ => ⟨rfl, e0, (by decide : 0 + 0 ≤ _), (by decide : 0 + 0 ≤ _)⟩)
    dsimp only [Pt.U, Pt.locs, Pt.cells, Pt.slots] at X1 l1 y1 z1 st1 hQ1
    subst l1 y1 z1
    obtain ⟨rfl, N1q, e1⟩ := hQ1
    have N1 := Fr.app N0 N1q
    refine go (B := T1.setTop (mkF m 11 #[.val (.int p1), .val (.int p2), .val (.int p3)] [(.int (fMn p2 p3)), (.int p1)])) (fun _ k => st1 _ k) ?_
    obtain ⟨_, _, ⟨T2, L2, k2, n2⟩, -, X2, ⟨Lc2, hQ2, l2, y2, z2⟩, st2⟩ := Jvm.LawKit.callS X1 hx (y := (⟨"java/lang/Math", "max", "(II)I"⟩ : MethodName)) hown (mvT hZ (hw _ (List.mem_of_getElem? (i := 12) rfl))) (mvT hZ (hw _ (List.mem_of_getElem? (i := 13) rfl))) (mvT hZ (hw _ (List.mem_of_getElem? (i := 10) rfl))) (mvT hZ (hw _ (List.mem_of_getElem? (i := 14) rfl))) (by decide) (backOf (W := 0) (rm4 l Z a0 hw [] p1 (fMn p2 p3) h0 n0 Z0) hZ (hw _ (List.mem_of_getElem? (i := 14) rfl)) (hw _ (List.mem_of_getElem? (i := 10) rfl)) (by decide) (by decide)) (g := (mkF m 11 #[.val (.int p1), .val (.int p2), .val (.int p3)] [(.int (fMn p2 p3)), (.int p1)])) rfl (by rw [hml]; rfl) (argsL := [(.int p1), (.int (fMn p2 p3))]) (rest := []) (lenOf pd__II_I rfl) rfl (by show 2 * 0 + _ ≤ _; exact Nat.le_of_eq rfl) (hb hby d2_11) (fun _ _ => ⟨rfl, e1, (by decide : 0 + 0 ≤ _), (by decide : 0 + 0 ≤ _)⟩)
    dsimp only [Pt.U, Pt.locs, Pt.cells, Pt.slots] at X2 l2 y2 z2 st2 hQ2
    subst l2 y2 z2
    obtain ⟨rfl, N2q, e2⟩ := hQ2
    have N2 := Fr.app N1 N2q
    refine go (B := T2.setTop (mkF m 14 #[.val (.int p1), .val (.int p2), .val (.int p3)] [(.int (fMx p1 (fMn p2 p3)))])) (fun _ k => st2 _ k) ?_
    refine go (B := T2.setTop (mkF m 15 #[.val (.int p1), .val (.int p2), .val (.int p3)] [(.int p3), (.int (fMx p1 (fMn p2 p3)))])) (fun _ k => XS.iloadN X2.here hx rfl (hb hby d2_14) rfl k) ?_
    by_cases hc15 : (fMx p1 (fMn p2 p3)) = p3
    · refine go (B := T2.setTop (mkF m 18 #[.val (.int p1), .val (.int p2), .val (.int p3)] [])) (fun _ k => XS.icmpNo X2.here hx rfl (hb hby d2_15) rfl (teq hc15).2 k) ?_
      refine go (B := T2.setTop (mkF m 19 #[.val (.int p1), .val (.int p2), .val (.int p3)] [(.int (1 : Int32))])) (fun _ k => XS.iconst X2.here hx rfl (hb hby d2_18) k) ?_
      refine go (B := T2.setTop (mkF m 23 #[.val (.int p1), .val (.int p2), .val (.int p3)] [(.int (1 : Int32))])) (fun _ k => XS.goto X2.here hx rfl (pc0 := 19) (pc' := 23) rfl (hb hby d2_19) (by decide) (by decide) k) ?_
      refine goRetN X2 hx (t := .boolean) Bd.returns (by simp) hlk (hb hby d2_23) ?_ (by decide) (by decide)
      rw [e2]
      have q : fWi p1 p2 p3 = (1 : Int32) := fWi_one (by have m1 := fMn_int p2 p3; have m2 := fMx_int p1 (fMn p2 p3); simp only [Int32.lt_iff_toInt_lt, Int64.lt_iff_toInt_lt, ← Int32.toInt_inj, ← Int64.toInt_inj, Int32.reduceToInt, Int64.reduceToInt] at hc2 hc15; omega)
      exact ⟨by rw [q]; rfl, N2, rfl⟩
    · refine go (B := T2.setTop (mkF m 22 #[.val (.int p1), .val (.int p2), .val (.int p3)] [])) (fun _ k => XS.icmpYes X2.here hx rfl (pc0 := 15) (pc' := 22) rfl (hb hby d2_15) rfl (feq hc15).2 (by decide) (by decide) k) ?_
      refine go (B := T2.setTop (mkF m 23 #[.val (.int p1), .val (.int p2), .val (.int p3)] [(.int (0 : Int32))])) (fun _ k => XS.iconst X2.here hx rfl (hb hby d2_22) k) ?_
      refine goRetN X2 hx (t := .boolean) Bd.returns (by simp) hlk (hb hby d2_23) ?_ (by decide) (by decide)
      rw [e2]
      have q : fWi p1 p2 p3 = (0 : Int32) := fWi_zero (by have m1 := fMn_int p2 p3; have m2 := fMx_int p1 (fMn p2 p3); simp only [Int32.lt_iff_toInt_lt, Int64.lt_iff_toInt_lt, ← Int32.toInt_inj, ← Int64.toInt_inj, Int32.reduceToInt, Int64.reduceToInt] at hc2 hc15; omega)
      exact ⟨by rw [q]; rfl, N2, rfl⟩
theorem pn_com_example_eel_river_eelriver_space_Rectangle : plainName "com/example/eel_river/eelriver/space/Rectangle" = true := by first | (simp [plainName, overriddenIn]; done) | decide +kernel
theorem ef_rm1 (m : MethodId) (u1 : UInt64) (u2 : UInt64) (u3 : UInt64) (u4 : UInt64) (u5 : UInt64) (u6 : UInt64) : entryFrame m #[(.double u1), (.double u2), (.double u3), (.double u4), (.double u5), (.double u6)] 12 = mkF m 0 #[.val (.double u1), .second, .val (.double u2), .second, .val (.double u3), .second, .val (.double u4), .second, .val (.double u5), .second, .val (.double u6), .second] [] := by first | (simp [entryFrame, mkF, argsToLocals, Value.category]; done) | rfl
def Q1 (Z : State) (u1 : UInt64) (u2 : UInt64) (u3 : UInt64) (u4 : UInt64) (u5 : UInt64) (u6 : UInt64) (j1 : Int) (j2 : Int) (j3 : Int) (j4 : Int) (j5 : Int) (j6 : Int) (h0 : Heap) (n0 : Nat) (v : Option Value) (h : Heap) (L : List Loc) : Prop := v = some (.int (fRC j1 j2 j3 j4 j5 j6)) ∧ Fr n0 L ∧ h = h0
theorem d1_0 : decode prog_202_method_4_code 0 = .ok (.dload 8, 2) := by decide +kernel
theorem d1_2 : decode prog_202_method_4_code 2 = .ok (.dload_n 0, 1) := by decide +kernel
theorem d1_3 : decode prog_202_method_4_code 3 = .ok (.dcmp .l, 1) := by decide +kernel
theorem d1_4 : decode prog_202_method_4_code 4 = .ok (.ifCond .lt 30, 3) := by decide +kernel
theorem d1_34 : decode prog_202_method_4_code 34 = .ok (.iconst 0, 1) := by decide +kernel
theorem d1_35 : decode prog_202_method_4_code 35 = .ok (.ireturn, 1) := by decide +kernel
theorem d1_7 : decode prog_202_method_4_code 7 = .ok (.dload 8, 2) := by decide +kernel
theorem d1_9 : decode prog_202_method_4_code 9 = .ok (.dload 4, 2) := by decide +kernel
theorem d1_11 : decode prog_202_method_4_code 11 = .ok (.dcmp .g, 1) := by decide +kernel
theorem d1_12 : decode prog_202_method_4_code 12 = .ok (.ifCond .gt 22, 3) := by decide +kernel
theorem d1_15 : decode prog_202_method_4_code 15 = .ok (.dload 10, 2) := by decide +kernel
theorem d1_17 : decode prog_202_method_4_code 17 = .ok (.dload_n 2, 1) := by decide +kernel
theorem d1_18 : decode prog_202_method_4_code 18 = .ok (.dcmp .l, 1) := by decide +kernel
theorem d1_19 : decode prog_202_method_4_code 19 = .ok (.ifCond .lt 15, 3) := by decide +kernel
theorem d1_22 : decode prog_202_method_4_code 22 = .ok (.dload 10, 2) := by decide +kernel
theorem d1_24 : decode prog_202_method_4_code 24 = .ok (.dload 6, 2) := by decide +kernel
theorem d1_26 : decode prog_202_method_4_code 26 = .ok (.dcmp .g, 1) := by decide +kernel
theorem d1_27 : decode prog_202_method_4_code 27 = .ok (.ifCond .gt 7, 3) := by decide +kernel
theorem d1_30 : decode prog_202_method_4_code 30 = .ok (.iconst 1, 1) := by decide +kernel
theorem d1_31 : decode prog_202_method_4_code 31 = .ok (.goto 4, 3) := by decide +kernel
set_option maxRecDepth 65536 in
set_option maxHeartbeats 40000000 in
theorem rm1 (l : Launch) (Z : State) (a0 : Array Value) (hw : ∀ d ∈ tables_1, d.before a0 Z = true) (ws : List Jvm.Cond) (u1 : UInt64) (u2 : UInt64) (u3 : UInt64) (u4 : UInt64) (u5 : UInt64) (u6 : UInt64) (j1 : Int) (j2 : Int) (j3 : Int) (j4 : Int) (j5 : Int) (j6 : Int) (h0 : Heap) (n0 : Nat) (Z0 : n0 ≤ h0.size) (D1 : FP.Core.DInt j1 u1) (D2 : FP.Core.DInt j2 u2) (D3 : FP.Core.DInt j3 u3) (D4 : FP.Core.DInt j4 u4) (D5 : FP.Core.DInt j5 u5) (D6 : FP.Core.DInt j6 u6) :
    MetFree l (⟨"com/example/eel_river/eelriver/space/Rectangle", "contains", "(DDDDDD)Z"⟩ : MethodName) (head1 (Jvm.Cond.code (⟨"com/example/eel_river/eelriver/space/Rectangle", "contains", "(DDDDDD)Z"⟩ : MethodName) prog_202_method_4_code 12 (some .boolean) :: ws) ({ frames := 0, cells := 0, slots := 0, locals := 0 } : Room)) (fun a U => a = #[(.double u1), (.double u2), (.double u3), (.double u4), (.double u5), (.double u6)] ∧ Z.Warmed39 U.vm ∧ U.heap = h0) (fun _ _ _ _ _ => True) (fun _ U o U' => ∃ v L, o = .returned v ∧ Q1 Z u1 u2 u3 u4 u5 u6 j1 j2 j3 j4 j5 j6 h0 n0 v U'.heap L ∧ FrameEnd U o U' L ({ frames := 0, cells := 0, slots := 0, locals := 0 } : Room).cells ({ frames := 0, cells := 0, slots := 0, locals := 0 } : Room).slots) := by
  refine MetFree.of_bodySF (plainFor_of_name pn_com_example_eel_river_eelriver_space_Rectangle) hisR ?_
  intro p e s m args below meth c s₁ Bd hml0 hP hK
  obtain ⟨rfl, hZ, hh⟩ := hP
  have hx := Bd.exec
  have hby := Bd.bytes
  have hml : c.maxLocals = 12 := hml0
  have hown : s.vm.findClass "com/example/eel_river/eelriver/space/Rectangle" = some m.cls := findClass_of_methodNamed Bd.named
  have hnm := (name_of_methodNamed Bd.named Bd.method).1
  have hlk := Bd.notSynchronized
  have X0 : Stand p l e ({ frames := 0, cells := 0, slots := 0, locals := 0 } : Room) s m #[(.double u1), (.double u2), (.double u3), (.double u4), (.double u5), (.double u6)] below meth c s₁ [] 0 0 := Stand.of_body Bd
  have e0 : s₁.heap = h0 := by rw [← hh, Bd.state]; rfl
  have N0 := Fr.nil n0
  show Go p.tables e below s ({ frames := 0, cells := 0, slots := 0, locals := 0 } : Room).cells ({ frames := 0, cells := 0, slots := 0, locals := 0 } : Room).slots (Q1 Z u1 u2 u3 u4 u5 u6 j1 j2 j3 j4 j5 j6 h0 n0) _
  refine go (fun t k => castTop (ef_rm1 m u1 u2 u3 u4 u5 u6) k) ?_
  refine go (B := s₁.setTop (mkF m 2 #[.val (.double u1), .second, .val (.double u2), .second, .val (.double u3), .second, .val (.double u4), .second, .val (.double u5), .second, .val (.double u6), .second] [(.double u5)])) (fun _ k => XD.dload X0.here hx rfl (hb hby d1_0) rfl k) ?_
  refine go (B := s₁.setTop (mkF m 3 #[.val (.double u1), .second, .val (.double u2), .second, .val (.double u3), .second, .val (.double u4), .second, .val (.double u5), .second, .val (.double u6), .second] [(.double u1), (.double u5)])) (fun _ k => XD.dloadN X0.here hx rfl (hb hby d1_2) rfl k) ?_
  rcases Int.lt_trichotomy (j5) (j1) with hd3 | hd3 | hd3
  · refine go (B := s₁.setTop (mkF m 4 #[.val (.double u1), .second, .val (.double u2), .second, .val (.double u3), .second, .val (.double u4), .second, .val (.double u5), .second, .val (.double u6), .second] [(.int (-1 : Int32))])) (fun _ k => XD.dcmp X0.here hx rfl (hb hby d1_3) rfl (XD.lt D5 D1 hd3) k) ?_
    have hc4 : (-1 : Int32) < (0 : Int32) := by decide
    refine go (B := s₁.setTop (mkF m 34 #[.val (.double u1), .second, .val (.double u2), .second, .val (.double u3), .second, .val (.double u4), .second, .val (.double u5), .second, .val (.double u6), .second] [])) (fun _ k => XS.ifYes X0.here hx rfl (pc0 := 4) (pc' := 34) rfl (hb hby d1_4) rfl ((if0 _ _).trans (tlt hc4).1) (by decide) (by decide) k) ?_
    refine go (B := s₁.setTop (mkF m 35 #[.val (.double u1), .second, .val (.double u2), .second, .val (.double u3), .second, .val (.double u4), .second, .val (.double u5), .second, .val (.double u6), .second] [(.int (0 : Int32))])) (fun _ k => XS.iconst X0.here hx rfl (hb hby d1_34) k) ?_
    refine goRetN X0 hx (t := .boolean) Bd.returns (by simp) hlk (hb hby d1_35) ?_ (by decide) (by decide)
    rw [e0]
    have q : fRC j1 j2 j3 j4 j5 j6 = (0 : Int32) := fRC_zero (by omega)
    exact ⟨by rw [q]; rfl, N0, rfl⟩
  · refine go (B := s₁.setTop (mkF m 4 #[.val (.double u1), .second, .val (.double u2), .second, .val (.double u3), .second, .val (.double u4), .second, .val (.double u5), .second, .val (.double u6), .second] [(.int (0 : Int32))])) (fun _ k => XD.dcmp X0.here hx rfl (hb hby d1_3) rfl (XD.eq D5 D1 hd3) k) ?_
    have hc4 : ¬ ((0 : Int32) < (0 : Int32)) := by decide
    refine go (B := s₁.setTop (mkF m 7 #[.val (.double u1), .second, .val (.double u2), .second, .val (.double u3), .second, .val (.double u4), .second, .val (.double u5), .second, .val (.double u6), .second] [])) (fun _ k => XS.ifNo X0.here hx rfl (hb hby d1_4) rfl ((if0 _ _).trans (flt hc4).1) k) ?_
    refine go (B := s₁.setTop (mkF m 9 #[.val (.double u1), .second, .val (.double u2), .second, .val (.double u3), .second, .val (.double u4), .second, .val (.double u5), .second, .val (.double u6), .second] [(.double u5)])) (fun _ k => XD.dload X0.here hx rfl (hb hby d1_7) rfl k) ?_
    refine go (B := s₁.setTop (mkF m 11 #[.val (.double u1), .second, .val (.double u2), .second, .val (.double u3), .second, .val (.double u4), .second, .val (.double u5), .second, .val (.double u6), .second] [(.double u3), (.double u5)])) (fun _ k => XD.dload X0.here hx rfl (hb hby d1_9) rfl k) ?_
    rcases Int.lt_trichotomy (j5) (j3) with hd11 | hd11 | hd11
    · refine go (B := s₁.setTop (mkF m 12 #[.val (.double u1), .second, .val (.double u2), .second, .val (.double u3), .second, .val (.double u4), .second, .val (.double u5), .second, .val (.double u6), .second] [(.int (-1 : Int32))])) (fun _ k => XD.dcmp X0.here hx rfl (hb hby d1_11) rfl (XD.lt D5 D3 hd11) k) ?_
      have hc12 : ¬ ((0 : Int32) < (-1 : Int32)) := by decide
      refine go (B := s₁.setTop (mkF m 15 #[.val (.double u1), .second, .val (.double u2), .second, .val (.double u3), .second, .val (.double u4), .second, .val (.double u5), .second, .val (.double u6), .second] [])) (fun _ k => XS.ifNo X0.here hx rfl (hb hby d1_12) rfl ((if0 _ _).trans (flt hc12).2.2.1) k) ?_
      refine go (B := s₁.setTop (mkF m 17 #[.val (.double u1), .second, .val (.double u2), .second, .val (.double u3), .second, .val (.double u4), .second, .val (.double u5), .second, .val (.double u6), .second] [(.double u6)])) (fun _ k => XD.dload X0.here hx rfl (hb hby d1_15) rfl k) ?_
      refine go (B := s₁.setTop (mkF m 18 #[.val (.double u1), .second, .val (.double u2), .second, .val (.double u3), .second, .val (.double u4), .second, .val (.double u5), .second, .val (.double u6), .second] [(.double u2), (.double u6)])) (fun _ k => XD.dloadN X0.here hx rfl (hb hby d1_17) rfl k) ?_
      rcases Int.lt_trichotomy (j6) (j2) with hd18 | hd18 | hd18
      · refine go (B := s₁.setTop (mkF m 19 #[.val (.double u1), .second, .val (.double u2), .second, .val (.double u3), .second, .val (.double u4), .second, .val (.double u5), .second, .val (.double u6), .second] [(.int (-1 : Int32))])) (fun _ k => XD.dcmp X0.here hx rfl (hb hby d1_18) rfl (XD.lt D6 D2 hd18) k) ?_
        have hc19 : (-1 : Int32) < (0 : Int32) := by decide
        refine go (B := s₁.setTop (mkF m 34 #[.val (.double u1), .second, .val (.double u2), .second, .val (.double u3), .second, .val (.double u4), .second, .val (.double u5), .second, .val (.double u6), .second] [])) (fun _ k => XS.ifYes X0.here hx rfl (pc0 := 19) (pc' := 34) rfl (hb hby d1_19) rfl ((if0 _ _).trans (tlt hc19).1) (by decide) (by decide) k) ?_
        refine go (B := s₁.setTop (mkF m 35 #[.val (.double u1), .second, .val (.double u2), .second, .val (.double u3), .second, .val (.double u4), .second, .val (.double u5), .second, .val (.double u6), .second] [(.int (0 : Int32))])) (fun _ k => XS.iconst X0.here hx rfl (hb hby d1_34) k) ?_
        refine goRetN X0 hx (t := .boolean) Bd.returns (by simp) hlk (hb hby d1_35) ?_ (by decide) (by decide)
        rw [e0]
        have q : fRC j1 j2 j3 j4 j5 j6 = (0 : Int32) := fRC_zero (by omega)
        exact ⟨by rw [q]; rfl, N0, rfl⟩
      · refine go (B := s₁.setTop (mkF m 19 #[.val (.double u1), .second, .val (.double u2), .second, .val (.double u3), .second, .val (.double u4), .second, .val (.double u5), .second, .val (.double u6), .second] [(.int (0 : Int32))])) (fun _ k => XD.dcmp X0.here hx rfl (hb hby d1_18) rfl (XD.eq D6 D2 hd18) k) ?_
        have hc19 : ¬ ((0 : Int32) < (0 : Int32)) := by decide
        refine go (B := s₁.setTop (mkF m 22 #[.val (.double u1), .second, .val (.double u2), .second, .val (.double u3), .second, .val (.double u4), .second, .val (.double u5), .second, .val (.double u6), .second] [])) (fun _ k => XS.ifNo X0.here hx rfl (hb hby d1_19) rfl ((if0 _ _).trans (flt hc19).1) k) ?_
        refine go (B := s₁.setTop (mkF m 24 #[.val (.double u1), .second, .val (.double u2), .second, .val (.double u3), .second, .val (.double u4), .second, .val (.double u5), .second, .val (.double u6), .second] [(.double u6)])) (fun _ k => XD.dload X0.here hx rfl (hb hby d1_22) rfl k) ?_
        refine go (B := s₁.setTop (mkF m 26 #[.val (.double u1), .second, .val (.double u2), .second, .val (.double u3), .second, .val (.double u4), .second, .val (.double u5), .second, .val (.double u6), .second] [(.double u4), (.double u6)])) (fun _ k => XD.dload X0.here hx rfl (hb hby d1_24) rfl k) ?_
        rcases Int.lt_trichotomy (j6) (j4) with hd26 | hd26 | hd26
        · refine go (B := s₁.setTop (mkF m 27 #[.val (.double u1), .second, .val (.double u2), .second, .val (.double u3), .second, .val (.double u4), .second, .val (.double u5), .second, .val (.double u6), .second] [(.int (-1 : Int32))])) (fun _ k => XD.dcmp X0.here hx rfl (hb hby d1_26) rfl (XD.lt D6 D4 hd26) k) ?_
          have hc27 : ¬ ((0 : Int32) < (-1 : Int32)) := by decide
          refine go (B := s₁.setTop (mkF m 30 #[.val (.double u1), .second, .val (.double u2), .second, .val (.double u3), .second, .val (.double u4), .second, .val (.double u5), .second, .val (.double u6), .second] [])) (fun _ k => XS.ifNo X0.here hx rfl (hb hby d1_27) rfl ((if0 _ _).trans (flt hc27).2.2.1) k) ?_
          refine go (B := s₁.setTop (mkF m 31 #[.val (.double u1), .second, .val (.double u2), .second, .val (.double u3), .second, .val (.double u4), .second, .val (.double u5), .second, .val (.double u6), .second] [(.int (1 : Int32))])) (fun _ k => XS.iconst X0.here hx rfl (hb hby d1_30) k) ?_
          refine go (B := s₁.setTop (mkF m 35 #[.val (.double u1), .second, .val (.double u2), .second, .val (.double u3), .second, .val (.double u4), .second, .val (.double u5), .second, .val (.double u6), .second] [(.int (1 : Int32))])) (fun _ k => XS.goto X0.here hx rfl (pc0 := 31) (pc' := 35) rfl (hb hby d1_31) (by decide) (by decide) k) ?_
          refine goRetN X0 hx (t := .boolean) Bd.returns (by simp) hlk (hb hby d1_35) ?_ (by decide) (by decide)
          rw [e0]
          have q : fRC j1 j2 j3 j4 j5 j6 = (1 : Int32) := fRC_one (by omega)
          exact ⟨by rw [q]; rfl, N0, rfl⟩
        · refine go (B := s₁.setTop (mkF m 27 #[.val (.double u1), .second, .val (.double u2), .second, .val (.double u3), .second, .val (.double u4), .second, .val (.double u5), .second, .val (.double u6), .second] [(.int (0 : Int32))])) (fun _ k => XD.dcmp X0.here hx rfl (hb hby d1_26) rfl (XD.eq D6 D4 hd26) k) ?_
          have hc27 : ¬ ((0 : Int32) < (0 : Int32)) := by decide
          refine go (B := s₁.setTop (mkF m 30 #[.val (.double u1), .second, .val (.double u2), .second, .val (.double u3), .second, .val (.double u4), .second, .val (.double u5), .second, .val (.double u6), .second] [])) (fun _ k => XS.ifNo X0.here hx rfl (hb hby d1_27) rfl ((if0 _ _).trans (flt hc27).2.2.1) k) ?_
          refine go (B := s₁.setTop (mkF m 31 #[.val (.double u1), .second, .val (.double u2), .second, .val (.double u3), .second, .val (.double u4), .second, .val (.double u5), .second, .val (.double u6), .second] [(.int (1 : Int32))])) (fun _ k => XS.iconst X0.here hx rfl (hb hby d1_30) k) ?_
          refine go (B := s₁.setTop (mkF m 35 #[.val (.double u1), .second, .val (.double u2), .second, .val (.double u3), .second, .val (.double u4), .second, .val (.double u5), .second, .val (.double u6), .second] [(.int (1 : Int32))])) (fun _ k => XS.goto X0.here hx rfl (pc0 := 31) (pc' := 35) rfl (hb hby d1_31) (by decide) (by decide) k) ?_
          refine goRetN X0 hx (t := .boolean) Bd.returns (by simp) hlk (hb hby d1_35) ?_ (by decide) (by decide)
          rw [e0]
          have q : fRC j1 j2 j3 j4 j5 j6 = (1 : Int32) := fRC_one (by omega)
          exact ⟨by rw [q]; rfl, N0, rfl⟩
        · refine go (B := s₁.setTop (mkF m 27 #[.val (.double u1), .second, .val (.double u2), .second, .val (.double u3), .second, .val (.double u4), .second, .val (.double u5), .second, .val (.double u6), .second] [(.int (1 : Int32))])) (fun _ k => XD.dcmp X0.here hx rfl (hb hby d1_26) rfl (XD.gt D6 D4 hd26) k) ?_
          have hc27 : (0 : Int32) < (1 : Int32) := by decide
          refine go (B := s₁.setTop (mkF m 34 #[.val (.double u1), .second, .val (.double u2), .second, .val (.double u3), .second, .val (.double u4), .second, .val (.double u5), .second, .val (.double u6), .second] [])) (fun _ k => XS.ifYes X0.here hx rfl (pc0 := 27) (pc' := 34) rfl (hb hby d1_27) rfl ((if0 _ _).trans (tlt hc27).2.2.1) (by decide) (by decide) k) ?_
          refine go (B := s₁.setTop (mkF m 35 #[.val (.double u1), .second, .val (.double u2), .second, .val (.double u3), .second, .val (.double u4), .second, .val (.double u5), .second, .val (.double u6), .second] [(.int (0 : Int32))])) (fun _ k => XS.iconst X0.here hx rfl (hb hby d1_34) k) ?_
          refine goRetN X0 hx (t := .boolean) Bd.returns (by simp) hlk (hb hby d1_35) ?_ (by decide) (by decide)
          rw [e0]
          have q : fRC j1 j2 j3 j4 j5 j6 = (0 : Int32) := fRC_zero (by omega)
          exact ⟨by rw [q]; rfl, N0, rfl⟩
      · refine go (B := s₁.setTop (mkF m 19 #[.val (.double u1), .second, .val (.double u2), .second, .val (.double u3), .second, .val (.double u4), .second, .val (.double u5), .second, .val (.double u6), .second] [(.int (1 : Int32))])) (fun _ k => XD.dcmp X0.here hx rfl (hb hby d1_18) rfl (XD.gt D6 D2 hd18) k) ?_
        have hc19 : ¬ ((1 : Int32) < (0 : Int32)) := by decide
        refine go (B := s₁.setTop (mkF m 22 #[.val (.double u1), .second, .val (.double u2), .second, .val (.double u3), .second, .val (.double u4), .second, .val (.double u5), .second, .val (.double u6), .second] [])) (fun _ k => XS.ifNo X0.here hx rfl (hb hby d1_19) rfl ((if0 _ _).trans (flt hc19).1) k) ?_
        refine go (B := s₁.setTop (mkF m 24 #[.val (.double u1), .second, .val (.double u2), .second, .val (.double u3), .second, .val (.double u4), .second, .val (.double u5), .second, .val (.double u6), .second] [(.double u6)])) (fun _ k => XD.dload X0.here hx rfl (hb hby d1_22) rfl k) ?_
        refine go (B := s₁.setTop (mkF m 26 #[.val (.double u1), .second, .val (.double u2), .second, .val (.double u3), .second, .val (.double u4), .second, .val (.double u5), .second, .val (.double u6), .second] [(.double u4), (.double u6)])) (fun _ k => XD.dload X0.here hx rfl (hb hby d1_24) rfl k) ?_
        rcases Int.lt_trichotomy (j6) (j4) with hd26 | hd26 | hd26
        · refine go (B := s₁.setTop (mkF m 27 #[.val (.double u1), .second, .val (.double u2), .second, .val (.double u3), .second, .val (.double u4), .second, .val (.double u5), .second, .val (.double u6), .second] [(.int (-1 : Int32))])) (fun _ k => XD.dcmp X0.here hx rfl (hb hby d1_26) rfl (XD.lt D6 D4 hd26) k) ?_
          have hc27 : ¬ ((0 : Int32) < (-1 : Int32)) := by decide
          refine go (B := s₁.setTop (mkF m 30 #[.val (.double u1), .second, .val (.double u2), .second, .val (.double u3), .second, .val (.double u4), .second, .val (.double u5), .second, .val (.double u6), .second] [])) (fun _ k => XS.ifNo X0.here hx rfl (hb hby d1_27) rfl ((if0 _ _).trans (flt hc27).2.2.1) k) ?_
          refine go (B := s₁.setTop (mkF m 31 #[.val (.double u1), .second, .val (.double u2), .second, .val (.double u3), .second, .val (.double u4), .second, .val (.double u5), .second, .val (.double u6), .second] [(.int (1 : Int32))])) (fun _ k => XS.iconst X0.here hx rfl (hb hby d1_30) k) ?_
          refine go (B := s₁.setTop (mkF m 35 #[.val (.double u1), .second, .val (.double u2), .second, .val (.double u3), .second, .val (.double u4), .second, .val (.double u5), .second, .val (.double u6), .second] [(.int (1 : Int32))])) (fun _ k => XS.goto X0.here hx rfl (pc0 := 31) (pc' := 35) rfl (hb hby d1_31) (by decide) (by decide) k) ?_
          refine goRetN X0 hx (t := .boolean) Bd.returns (by simp) hlk (hb hby d1_35) ?_ (by decide) (by decide)
          rw [e0]
          have q : fRC j1 j2 j3 j4 j5 j6 = (1 : Int32) := fRC_one (by omega)
          exact ⟨by rw [q]; rfl, N0, rfl⟩
        · refine go (B := s₁.setTop (mkF m 27 #[.val (.double u1), .second, .val (.double u2), .second, .val (.double u3), .second, .val (.double u4), .second, .val (.double u5), .second, .val (.double u6), .second] [(.int (0 : Int32))])) (fun _ k => XD.dcmp X0.here hx rfl (hb hby d1_26) rfl (XD.eq D6 D4 hd26) k) ?_
          have hc27 : ¬ ((0 : Int32) < (0 : Int32)) := by decide
          refine go (B := s₁.setTop (mkF m 30 #[.val (.double u1), .second, .val (.double u2), .second, .val (.double u3), .second, .val (.double u4), .second, .val (.double u5), .second, .val (.double u6), .second] [])) (fun _ k => XS.ifNo X0.here hx rfl (hb hby d1_27) rfl ((if0 _ _).trans (flt hc27).2.2.1) k) ?_
          refine go (B := s₁.setTop (mkF m 31 #[.val (.double u1), .second, .val (.double u2), .second, .val (.double u3), .second, .val (.double u4), .second, .val (.double u5), .second, .val (.double u6), .second] [(.int (1 : Int32))])) (fun _ k => XS.iconst X0.here hx rfl (hb hby d1_30) k) ?_
          refine go (B := s₁.setTop (mkF m 35 #[.val (.double u1), .second, .val (.double u2), .second, .val (.double u3), .second, .val (.double u4), .second, .val (.double u5), .second, .val (.double u6), .second] [(.int (1 : Int32))])) (fun _ k => XS.goto X0.here hx rfl (pc0 := 31) (pc' := 35) rfl (hb hby d1_31) (by decide) (by decide) k) ?_
          refine goRetN X0 hx (t := .boolean) Bd.returns (by simp) hlk (hb hby d1_35) ?_ (by decide) (by decide)
          rw [e0]
          have q : fRC j1 j2 j3 j4 j5 j6 = (1 : Int32) := fRC_one (by omega)
          exact ⟨by rw [q]; rfl, N0, rfl⟩
        · refine go (B := s₁.setTop (mkF m 27 #[.val (.double u1), .second, .val (.double u2), .second, .val (.double u3), .second, .val (.double u4), .second, .val (.double u5), .second, .val (.double u6), .second] [(.int (1 : Int32))])) (fun _ k => XD.dcmp X0.here hx rfl (hb hby d1_26) rfl (XD.gt D6 D4 hd26) k) ?_
          have hc27 : (0 : Int32) < (1 : Int32) := by decide
          refine go (B := s₁.setTop (mkF m 34 #[.val (.double u1), .second, .val (.double u2), .second, .val (.double u3), .second, .val (.double u4), .second, .val (.double u5), .second, .val (.double u6), .second] [])) (fun _ k => XS.ifYes X0.here hx rfl (pc0 := 27) (pc' := 34) rfl (hb hby d1_27) rfl ((if0 _ _).trans (tlt hc27).2.2.1) (by decide) (by decide) k) ?_
          refine go (B := s₁.setTop (mkF m 35 #[.val (.double u1), .second, .val (.double u2), .second, .val (.double u3), .second, .val (.double u4), .second, .val (.double u5), .second, .val (.double u6), .second] [(.int (0 : Int32))])) (fun _ k => XS.iconst X0.here hx rfl (hb hby d1_34) k) ?_
          refine goRetN X0 hx (t := .boolean) Bd.returns (by simp) hlk (hb hby d1_35) ?_ (by decide) (by decide)
          rw [e0]
          have q : fRC j1 j2 j3 j4 j5 j6 = (0 : Int32) := fRC_zero (by omega)
          exact ⟨by rw [q]; rfl, N0, rfl⟩
    · refine go (B := s₁.setTop (mkF m 12 #[.val (.double u1), .second, .val (.double u2), .second, .val (.double u3), .second, .val (.double u4), .second, .val (.double u5), .second, .val (.double u6), .second] [(.int (0 : Int32))])) (fun _ k => XD.dcmp X0.here hx rfl (hb hby d1_11) rfl (XD.eq D5 D3 hd11) k) ?_
      have hc12 : ¬ ((0 : Int32) < (0 : Int32)) := by decide
      refine go (B := s₁.setTop (mkF m 15 #[.val (.double u1), .second, .val (.double u2), .second, .val (.double u3), .second, .val (.double u4), .second, .val (.double u5), .second, .val (.double u6), .second] [])) (fun _ k => XS.ifNo X0.here hx rfl (hb hby d1_12) rfl ((if0 _ _).trans (flt hc12).2.2.1) k) ?_
      refine go (B := s₁.setTop (mkF m 17 #[.val (.double u1), .second, .val (.double u2), .second, .val (.double u3), .second, .val (.double u4), .second, .val (.double u5), .second, .val (.double u6), .second] [(.double u6)])) (fun _ k => XD.dload X0.here hx rfl (hb hby d1_15) rfl k) ?_
      refine go (B := s₁.setTop (mkF m 18 #[.val (.double u1), .second, .val (.double u2), .second, .val (.double u3), .second, .val (.double u4), .second, .val (.double u5), .second, .val (.double u6), .second] [(.double u2), (.double u6)])) (fun _ k => XD.dloadN X0.here hx rfl (hb hby d1_17) rfl k) ?_
      rcases Int.lt_trichotomy (j6) (j2) with hd18 | hd18 | hd18
      · refine go (B := s₁.setTop (mkF m 19 #[.val (.double u1), .second, .val (.double u2), .second, .val (.double u3), .second, .val (.double u4), .second, .val (.double u5), .second, .val (.double u6), .second] [(.int (-1 : Int32))])) (fun _ k => XD.dcmp X0.here hx rfl (hb hby d1_18) rfl (XD.lt D6 D2 hd18) k) ?_
        have hc19 : (-1 : Int32) < (0 : Int32) := by decide
        refine go (B := s₁.setTop (mkF m 34 #[.val (.double u1), .second, .val (.double u2), .second, .val (.double u3), .second, .val (.double u4), .second, .val (.double u5), .second, .val (.double u6), .second] [])) (fun _ k => XS.ifYes X0.here hx rfl (pc0 := 19) (pc' := 34) rfl (hb hby d1_19) rfl ((if0 _ _).trans (tlt hc19).1) (by decide) (by decide) k) ?_
        refine go (B := s₁.setTop (mkF m 35 #[.val (.double u1), .second, .val (.double u2), .second, .val (.double u3), .second, .val (.double u4), .second, .val (.double u5), .second, .val (.double u6), .second] [(.int (0 : Int32))])) (fun _ k => XS.iconst X0.here hx rfl (hb hby d1_34) k) ?_
        refine goRetN X0 hx (t := .boolean) Bd.returns (by simp) hlk (hb hby d1_35) ?_ (by decide) (by decide)
        rw [e0]
        have q : fRC j1 j2 j3 j4 j5 j6 = (0 : Int32) := fRC_zero (by omega)
        exact ⟨by rw [q]; rfl, N0, rfl⟩
      · refine go (B := s₁.setTop (mkF m 19 #[.val (.double u1), .second, .val (.double u2), .second, .val (.double u3), .second, .val (.double u4), .second, .val (.double u5), .second, .val (.double u6), .second] [(.int (0 : Int32))])) (fun _ k => XD.dcmp X0.here hx rfl (hb hby d1_18) rfl (XD.eq D6 D2 hd18) k) ?_
        have hc19 : ¬ ((0 : Int32) < (0 : Int32)) := by decide
        refine go (B := s₁.setTop (mkF m 22 #[.val (.double u1), .second, .val (.double u2), .second, .val (.double u3), .second, .val (.double u4), .second, .val (.double u5), .second, .val (.double u6), .second] [])) (fun _ k => XS.ifNo X0.here hx rfl (hb hby d1_19) rfl ((if0 _ _).trans (flt hc19).1) k) ?_
        refine go (B := s₁.setTop (mkF m 24 #[.val (.double u1), .second, .val (.double u2), .second, .val (.double u3), .second, .val (.double u4), .second, .val (.double u5), .second, .val (.double u6), .second] [(.double u6)])) (fun _ k => XD.dload X0.here hx rfl (hb hby d1_22) rfl k) ?_
        refine go (B := s₁.setTop (mkF m 26 #[.val (.double u1), .second, .val (.double u2), .second, .val (.double u3), .second, .val (.double u4), .second, .val (.double u5), .second, .val (.double u6), .second] [(.double u4), (.double u6)])) (fun _ k => XD.dload X0.here hx rfl (hb hby d1_24) rfl k) ?_
        rcases Int.lt_trichotomy (j6) (j4) with hd26 | hd26 | hd26
        · refine go (B := s₁.setTop (mkF m 27 #[.val (.double u1), .second, .val (.double u2), .second, .val (.double u3), .second, .val (.double u4), .second, .val (.double u5), .second, .val (.double u6), .second] [(.int (-1 : Int32))])) (fun _ k => XD.dcmp X0.here hx rfl (hb hby d1_26) rfl (XD.lt D6 D4 hd26) k) ?_
          have hc27 : ¬ ((0 : Int32) < (-1 : Int32)) := by decide
          refine go (B := s₁.setTop (mkF m 30 #[.val (.double u1), .second, .val (.double u2), .second, .val (.double u3), .second, .val (.double u4), .second, .val (.double u5), .second, .val (.double u6), .second] [])) (fun _ k => XS.ifNo X0.here hx rfl (hb hby d1_27) rfl ((if0 _ _).trans (flt hc27).2.2.1) k) ?_
          refine go (B := s₁.setTop (mkF m 31 #[.val (.double u1), .second, .val (.double u2), .second, .val (.double u3), .second, .val (.double u4), .second, .val (.double u5), .second, .val (.double u6), .second] [(.int (1 : Int32))])) (fun _ k => XS.iconst X0.here hx rfl (hb hby d1_30) k) ?_
          refine go (B := s₁.setTop (mkF m 35 #[.val (.double u1), .second, .val (.double u2), .second, .val (.double u3), .second, .val (.double u4), .second, .val (.double u5), .second, .val (.double u6), .second] [(.int (1 : Int32))])) (fun _ k => XS.goto X0.here hx rfl (pc0 := 31) (pc' := 35) rfl (hb hby d1_31) (by decide) (by decide) k) ?_
          refine goRetN X0 hx (t := .boolean) Bd.returns (by simp) hlk (hb hby d1_35) ?_ (by decide) (by decide)
          rw [e0]
          have q : fRC j1 j2 j3 j4 j5 j6 = (1 : Int32) := fRC_one (by omega)
          exact ⟨by rw [q]; rfl, N0, rfl⟩
        · refine go (B := s₁.setTop (mkF m 27 #[.val (.double u1), .second, .val (.double u2), .second, .val (.double u3), .second, .val (.double u4), .second, .val (.double u5), .second, .val (.double u6), .second] [(.int (0 : Int32))])) (fun _ k => XD.dcmp X0.here hx rfl (hb hby d1_26) rfl (XD.eq D6 D4 hd26) k) ?_
          have hc27 : ¬ ((0 : Int32) < (0 : Int32)) := by decide
          refine go (B := s₁.setTop (mkF m 30 #[.val (.double u1), .second, .val (.double u2), .second, .val (.double u3), .second, .val (.double u4), .second, .val (.double u5), .second, .val (.double u6), .second] [])) (fun _ k => XS.ifNo X0.here hx rfl (hb hby d1_27) rfl ((if0 _ _).trans (flt hc27).2.2.1) k) ?_
          refine go (B := s₁.setTop (mkF m 31 #[.val (.double u1), .second, .val (.double u2), .second, .val (.double u3), .second, .val (.double u4), .second, .val (.double u5), .second, .val (.double u6), .second] [(.int (1 : Int32))])) (fun _ k => XS.iconst X0.here hx rfl (hb hby d1_30) k) ?_
          refine go (B := s₁.setTop (mkF m 35 #[.val (.double u1), .second, .val (.double u2), .second, .val (.double u3), .second, .val (.double u4), .second, .val (.double u5), .second, .val (.double u6), .second] [(.int (1 : Int32))])) (fun _ k => XS.goto X0.here hx rfl (pc0 := 31) (pc' := 35) rfl (hb hby d1_31) (by decide) (by decide) k) ?_
          refine goRetN X0 hx (t := .boolean) Bd.returns (by simp) hlk (hb hby d1_35) ?_ (by decide) (by decide)
          rw [e0]
          have q : fRC j1 j2 j3 j4 j5 j6 = (1 : Int32) := fRC_one (by omega)
          exact ⟨by rw [q]; rfl, N0, rfl⟩
        · refine go (B := s₁.setTop (mkF m 27 #[.val (.double u1), .second, .val (.double u2), .second, .val (.double u3), .second, .val (.double u4), .second, .val (.double u5), .second, .val (.double u6), .second] [(.int (1 : Int32))])) (fun _ k => XD.dcmp X0.here hx rfl (hb hby d1_26) rfl (XD.gt D6 D4 hd26) k) ?_
          have hc27 : (0 : Int32) < (1 : Int32) := by decide
          refine go (B := s₁.setTop (mkF m 34 #[.val (.double u1), .second, .val (.double u2), .second, .val (.double u3), .second, .val (.double u4), .second, .val (.double u5), .second, .val (.double u6), .second] [])) (fun _ k => XS.ifYes X0.here hx rfl (pc0 := 27) (pc' := 34) rfl (hb hby d1_27) rfl ((if0 _ _).trans (tlt hc27).2.2.1) (by decide) (by decide) k) ?_
          refine go (B := s₁.setTop (mkF m 35 #[.val (.double u1), .second, .val (.double u2), .second, .val (.double u3), .second, .val (.double u4), .second, .val (.double u5), .second, .val (.double u6), .second] [(.int (0 : Int32))])) (fun _ k => XS.iconst X0.here hx rfl (hb hby d1_34) k) ?_
          refine goRetN X0 hx (t := .boolean) Bd.returns (by simp) hlk (hb hby d1_35) ?_ (by decide) (by decide)
          rw [e0]
          have q : fRC j1 j2 j3 j4 j5 j6 = (0 : Int32) := fRC_zero (by omega)
          exact ⟨by rw [q]; rfl, N0, rfl⟩
      · refine go (B := s₁.setTop (mkF m 19 #[.val (.double u1), .second, .val (.double u2), .second, .val (.double u3), .second, .val (.double u4), .second, .val (.double u5), .second, .val (.double u6), .second] [(.int (1 : Int32))])) (fun _ k => XD.dcmp X0.here hx rfl (hb hby d1_18) rfl (XD.gt D6 D2 hd18) k) ?_
        have hc19 : ¬ ((1 : Int32) < (0 : Int32)) := by decide
        refine go (B := s₁.setTop (mkF m 22 #[.val (.double u1), .second, .val (.double u2), .second, .val (.double u3), .second, .val (.double u4), .second, .val (.double u5), .second, .val (.double u6), .second] [])) (fun _ k => XS.ifNo X0.here hx rfl (hb hby d1_19) rfl ((if0 _ _).trans (flt hc19).1) k) ?_
        refine go (B := s₁.setTop (mkF m 24 #[.val (.double u1), .second, .val (.double u2), .second, .val (.double u3), .second, .val (.double u4), .second, .val (.double u5), .second, .val (.double u6), .second] [(.double u6)])) (fun _ k => XD.dload X0.here hx rfl (hb hby d1_22) rfl k) ?_
        refine go (B := s₁.setTop (mkF m 26 #[.val (.double u1), .second, .val (.double u2), .second, .val (.double u3), .second, .val (.double u4), .second, .val (.double u5), .second, .val (.double u6), .second] [(.double u4), (.double u6)])) (fun _ k => XD.dload X0.here hx rfl (hb hby d1_24) rfl k) ?_
        rcases Int.lt_trichotomy (j6) (j4) with hd26 | hd26 | hd26
        · refine go (B := s₁.setTop (mkF m 27 #[.val (.double u1), .second, .val (.double u2), .second, .val (.double u3), .second, .val (.double u4), .second, .val (.double u5), .second, .val (.double u6), .second] [(.int (-1 : Int32))])) (fun _ k => XD.dcmp X0.here hx rfl (hb hby d1_26) rfl (XD.lt D6 D4 hd26) k) ?_
          have hc27 : ¬ ((0 : Int32) < (-1 : Int32)) := by decide
          refine go (B := s₁.setTop (mkF m 30 #[.val (.double u1), .second, .val (.double u2), .second, .val (.double u3), .second, .val (.double u4), .second, .val (.double u5), .second, .val (.double u6), .second] [])) (fun _ k => XS.ifNo X0.here hx rfl (hb hby d1_27) rfl ((if0 _ _).trans (flt hc27).2.2.1) k) ?_
          refine go (B := s₁.setTop (mkF m 31 #[.val (.double u1), .second, .val (.double u2), .second, .val (.double u3), .second, .val (.double u4), .second, .val (.double u5), .second, .val (.double u6), .second] [(.int (1 : Int32))])) (fun _ k => XS.iconst X0.here hx rfl (hb hby d1_30) k) ?_
          refine go (B := s₁.setTop (mkF m 35 #[.val (.double u1), .second, .val (.double u2), .second, .val (.double u3), .second, .val (.double u4), .second, .val (.double u5), .second, .val (.double u6), .second] [(.int (1 : Int32))])) (fun _ k => XS.goto X0.here hx rfl (pc0 := 31) (pc' := 35) rfl (hb hby d1_31) (by decide) (by decide) k) ?_
          refine goRetN X0 hx (t := .boolean) Bd.returns (by simp) hlk (hb hby d1_35) ?_ (by decide) (by decide)
          rw [e0]
          have q : fRC j1 j2 j3 j4 j5 j6 = (1 : Int32) := fRC_one (by omega)
          exact ⟨by rw [q]; rfl, N0, rfl⟩
        · refine go (B := s₁.setTop (mkF m 27 #[.val (.double u1), .second, .val (.double u2), .second, .val (.double u3), .second, .val (.double u4), .second, .val (.double u5), .second, .val (.double u6), .second] [(.int (0 : Int32))])) (fun _ k => XD.dcmp X0.here hx rfl (hb hby d1_26) rfl (XD.eq D6 D4 hd26) k) ?_
          have hc27 : ¬ ((0 : Int32) < (0 : Int32)) := by decide
          refine go (B := s₁.setTop (mkF m 30 #[.val (.double u1), .second, .val (.double u2), .second, .val (.double u3), .second, .val (.double u4), .second, .val (.double u5), .second, .val (.double u6), .second] [])) (fun _ k => XS.ifNo X0.here hx rfl (hb hby d1_27) rfl ((if0 _ _).trans (flt hc27).2.2.1) k) ?_
          refine go (B := s₁.setTop (mkF m 31 #[.val (.double u1), .second, .val (.double u2), .second, .val (.double u3), .second, .val (.double u4), .second, .val (.double u5), .second, .val (.double u6), .second] [(.int (1 : Int32))])) (fun _ k => XS.iconst X0.here hx rfl (hb hby d1_30) k) ?_
          refine go (B := s₁.setTop (mkF m 35 #[.val (.double u1), .second, .val (.double u2), .second, .val (.double u3), .second, .val (.double u4), .second, .val (.double u5), .second, .val (.double u6), .second] [(.int (1 : Int32))])) (fun _ k => XS.goto X0.here hx rfl (pc0 := 31) (pc' := 35) rfl (hb hby d1_31) (by decide) (by decide) k) ?_
          refine goRetN X0 hx (t := .boolean) Bd.returns (by simp) hlk (hb hby d1_35) ?_ (by decide) (by decide)
          rw [e0]
          have q : fRC j1 j2 j3 j4 j5 j6 = (1 : Int32) := fRC_one (by omega)
          exact ⟨by rw [q]; rfl, N0, rfl⟩
        · refine go (B := s₁.setTop (mkF m 27 #[.val (.double u1), .second, .val (.double u2), .second, .val (.double u3), .second, .val (.double u4), .second, .val (.double u5), .second, .val (.double u6), .second] [(.int (1 : Int32))])) (fun _ k => XD.dcmp X0.here hx rfl (hb hby d1_26) rfl (XD.gt D6 D4 hd26) k) ?_
          have hc27 : (0 : Int32) < (1 : Int32) := by decide
          refine go (B := s₁.setTop (mkF m 34 #[.val (.double u1), .second, .val (.double u2), .second, .val (.double u3), .second, .val (.double u4), .second, .val (.double u5), .second, .val (.double u6), .second] [])) (fun _ k => XS.ifYes X0.here hx rfl (pc0 := 27) (pc' := 34) rfl (hb hby d1_27) rfl ((if0 _ _).trans (tlt hc27).2.2.1) (by decide) (by decide) k) ?_
          refine go (B := s₁.setTop (mkF m 35 #[.val (.double u1), .second, .val (.double u2), .second, .val (.double u3), .second, .val (.double u4), .second, .val (.double u5), .second, .val (.double u6), .second] [(.int (0 : Int32))])) (fun _ k => XS.iconst X0.here hx rfl (hb hby d1_34) k) ?_
          refine goRetN X0 hx (t := .boolean) Bd.returns (by simp) hlk (hb hby d1_35) ?_ (by decide) (by decide)
          rw [e0]
          have q : fRC j1 j2 j3 j4 j5 j6 = (0 : Int32) := fRC_zero (by omega)
          exact ⟨by rw [q]; rfl, N0, rfl⟩
    · refine go (B := s₁.setTop (mkF m 12 #[.val (.double u1), .second, .val (.double u2), .second, .val (.double u3), .second, .val (.double u4), .second, .val (.double u5), .second, .val (.double u6), .second] [(.int (1 : Int32))])) (fun _ k => XD.dcmp X0.here hx rfl (hb hby d1_11) rfl (XD.gt D5 D3 hd11) k) ?_
      have hc12 : (0 : Int32) < (1 : Int32) := by decide
      refine go (B := s₁.setTop (mkF m 34 #[.val (.double u1), .second, .val (.double u2), .second, .val (.double u3), .second, .val (.double u4), .second, .val (.double u5), .second, .val (.double u6), .second] [])) (fun _ k => XS.ifYes X0.here hx rfl (pc0 := 12) (pc' := 34) rfl (hb hby d1_12) rfl ((if0 _ _).trans (tlt hc12).2.2.1) (by decide) (by decide) k) ?_
      refine go (B := s₁.setTop (mkF m 35 #[.val (.double u1), .second, .val (.double u2), .second, .val (.double u3), .second, .val (.double u4), .second, .val (.double u5), .second, .val (.double u6), .second] [(.int (0 : Int32))])) (fun _ k => XS.iconst X0.here hx rfl (hb hby d1_34) k) ?_
      refine goRetN X0 hx (t := .boolean) Bd.returns (by simp) hlk (hb hby d1_35) ?_ (by decide) (by decide)
      rw [e0]
      have q : fRC j1 j2 j3 j4 j5 j6 = (0 : Int32) := fRC_zero (by omega)
      exact ⟨by rw [q]; rfl, N0, rfl⟩
  · refine go (B := s₁.setTop (mkF m 4 #[.val (.double u1), .second, .val (.double u2), .second, .val (.double u3), .second, .val (.double u4), .second, .val (.double u5), .second, .val (.double u6), .second] [(.int (1 : Int32))])) (fun _ k => XD.dcmp X0.here hx rfl (hb hby d1_3) rfl (XD.gt D5 D1 hd3) k) ?_
    have hc4 : ¬ ((1 : Int32) < (0 : Int32)) := by decide
    refine go (B := s₁.setTop (mkF m 7 #[.val (.double u1), .second, .val (.double u2), .second, .val (.double u3), .second, .val (.double u4), .second, .val (.double u5), .second, .val (.double u6), .second] [])) (fun _ k => XS.ifNo X0.here hx rfl (hb hby d1_4) rfl ((if0 _ _).trans (flt hc4).1) k) ?_
    refine go (B := s₁.setTop (mkF m 9 #[.val (.double u1), .second, .val (.double u2), .second, .val (.double u3), .second, .val (.double u4), .second, .val (.double u5), .second, .val (.double u6), .second] [(.double u5)])) (fun _ k => XD.dload X0.here hx rfl (hb hby d1_7) rfl k) ?_
    refine go (B := s₁.setTop (mkF m 11 #[.val (.double u1), .second, .val (.double u2), .second, .val (.double u3), .second, .val (.double u4), .second, .val (.double u5), .second, .val (.double u6), .second] [(.double u3), (.double u5)])) (fun _ k => XD.dload X0.here hx rfl (hb hby d1_9) rfl k) ?_
    rcases Int.lt_trichotomy (j5) (j3) with hd11 | hd11 | hd11
    · refine go (B := s₁.setTop (mkF m 12 #[.val (.double u1), .second, .val (.double u2), .second, .val (.double u3), .second, .val (.double u4), .second, .val (.double u5), .second, .val (.double u6), .second] [(.int (-1 : Int32))])) (fun _ k => XD.dcmp X0.here hx rfl (hb hby d1_11) rfl (XD.lt D5 D3 hd11) k) ?_
      have hc12 : ¬ ((0 : Int32) < (-1 : Int32)) := by decide
      refine go (B := s₁.setTop (mkF m 15 #[.val (.double u1), .second, .val (.double u2), .second, .val (.double u3), .second, .val (.double u4), .second, .val (.double u5), .second, .val (.double u6), .second] [])) (fun _ k => XS.ifNo X0.here hx rfl (hb hby d1_12) rfl ((if0 _ _).trans (flt hc12).2.2.1) k) ?_
      refine go (B := s₁.setTop (mkF m 17 #[.val (.double u1), .second, .val (.double u2), .second, .val (.double u3), .second, .val (.double u4), .second, .val (.double u5), .second, .val (.double u6), .second] [(.double u6)])) (fun _ k => XD.dload X0.here hx rfl (hb hby d1_15) rfl k) ?_
      refine go (B := s₁.setTop (mkF m 18 #[.val (.double u1), .second, .val (.double u2), .second, .val (.double u3), .second, .val (.double u4), .second, .val (.double u5), .second, .val (.double u6), .second] [(.double u2), (.double u6)])) (fun _ k => XD.dloadN X0.here hx rfl (hb hby d1_17) rfl k) ?_
      rcases Int.lt_trichotomy (j6) (j2) with hd18 | hd18 | hd18
      · refine go (B := s₁.setTop (mkF m 19 #[.val (.double u1), .second, .val (.double u2), .second, .val (.double u3), .second, .val (.double u4), .second, .val (.double u5), .second, .val (.double u6), .second] [(.int (-1 : Int32))])) (fun _ k => XD.dcmp X0.here hx rfl (hb hby d1_18) rfl (XD.lt D6 D2 hd18) k) ?_
        have hc19 : (-1 : Int32) < (0 : Int32) := by decide
        refine go (B := s₁.setTop (mkF m 34 #[.val (.double u1), .second, .val (.double u2), .second, .val (.double u3), .second, .val (.double u4), .second, .val (.double u5), .second, .val (.double u6), .second] [])) (fun _ k => XS.ifYes X0.here hx rfl (pc0 := 19) (pc' := 34) rfl (hb hby d1_19) rfl ((if0 _ _).trans (tlt hc19).1) (by decide) (by decide) k) ?_
        refine go (B := s₁.setTop (mkF m 35 #[.val (.double u1), .second, .val (.double u2), .second, .val (.double u3), .second, .val (.double u4), .second, .val (.double u5), .second, .val (.double u6), .second] [(.int (0 : Int32))])) (fun _ k => XS.iconst X0.here hx rfl (hb hby d1_34) k) ?_
        refine goRetN X0 hx (t := .boolean) Bd.returns (by simp) hlk (hb hby d1_35) ?_ (by decide) (by decide)
        rw [e0]
        have q : fRC j1 j2 j3 j4 j5 j6 = (0 : Int32) := fRC_zero (by omega)
        exact ⟨by rw [q]; rfl, N0, rfl⟩
      · refine go (B := s₁.setTop (mkF m 19 #[.val (.double u1), .second, .val (.double u2), .second, .val (.double u3), .second, .val (.double u4), .second, .val (.double u5), .second, .val (.double u6), .second] [(.int (0 : Int32))])) (fun _ k => XD.dcmp X0.here hx rfl (hb hby d1_18) rfl (XD.eq D6 D2 hd18) k) ?_
        have hc19 : ¬ ((0 : Int32) < (0 : Int32)) := by decide
        refine go (B := s₁.setTop (mkF m 22 #[.val (.double u1), .second, .val (.double u2), .second, .val (.double u3), .second, .val (.double u4), .second, .val (.double u5), .second, .val (.double u6), .second] [])) (fun _ k => XS.ifNo X0.here hx rfl (hb hby d1_19) rfl ((if0 _ _).trans (flt hc19).1) k) ?_
        refine go (B := s₁.setTop (mkF m 24 #[.val (.double u1), .second, .val (.double u2), .second, .val (.double u3), .second, .val (.double u4), .second, .val (.double u5), .second, .val (.double u6), .second] [(.double u6)])) (fun _ k => XD.dload X0.here hx rfl (hb hby d1_22) rfl k) ?_
        refine go (B := s₁.setTop (mkF m 26 #[.val (.double u1), .second, .val (.double u2), .second, .val (.double u3), .second, .val (.double u4), .second, .val (.double u5), .second, .val (.double u6), .second] [(.double u4), (.double u6)])) (fun _ k => XD.dload X0.here hx rfl (hb hby d1_24) rfl k) ?_
        rcases Int.lt_trichotomy (j6) (j4) with hd26 | hd26 | hd26
        · refine go (B := s₁.setTop (mkF m 27 #[.val (.double u1), .second, .val (.double u2), .second, .val (.double u3), .second, .val (.double u4), .second, .val (.double u5), .second, .val (.double u6), .second] [(.int (-1 : Int32))])) (fun _ k => XD.dcmp X0.here hx rfl (hb hby d1_26) rfl (XD.lt D6 D4 hd26) k) ?_
          have hc27 : ¬ ((0 : Int32) < (-1 : Int32)) := by decide
          refine go (B := s₁.setTop (mkF m 30 #[.val (.double u1), .second, .val (.double u2), .second, .val (.double u3), .second, .val (.double u4), .second, .val (.double u5), .second, .val (.double u6), .second] [])) (fun _ k => XS.ifNo X0.here hx rfl (hb hby d1_27) rfl ((if0 _ _).trans (flt hc27).2.2.1) k) ?_
          refine go (B := s₁.setTop (mkF m 31 #[.val (.double u1), .second, .val (.double u2), .second, .val (.double u3), .second, .val (.double u4), .second, .val (.double u5), .second, .val (.double u6), .second] [(.int (1 : Int32))])) (fun _ k => XS.iconst X0.here hx rfl (hb hby d1_30) k) ?_
          refine go (B := s₁.setTop (mkF m 35 #[.val (.double u1), .second, .val (.double u2), .second, .val (.double u3), .second, .val (.double u4), .second, .val (.double u5), .second, .val (.double u6), .second] [(.int (1 : Int32))])) (fun _ k => XS.goto X0.here hx rfl (pc0 := 31) (pc' := 35) rfl (hb hby d1_31) (by decide) (by decide) k) ?_
          refine goRetN X0 hx (t := .boolean) Bd.returns (by simp) hlk (hb hby d1_35) ?_ (by decide) (by decide)
          rw [e0]
          have q : fRC j1 j2 j3 j4 j5 j6 = (1 : Int32) := fRC_one (by omega)
          exact ⟨by rw [q]; rfl, N0, rfl⟩
        · refine go (B := s₁.setTop (mkF m 27 #[.val (.double u1), .second, .val (.double u2), .second, .val (.double u3), .second, .val (.double u4), .second, .val (.double u5), .second, .val (.double u6), .second] [(.int (0 : Int32))])) (fun _ k => XD.dcmp X0.here hx rfl (hb hby d1_26) rfl (XD.eq D6 D4 hd26) k) ?_
          have hc27 : ¬ ((0 : Int32) < (0 : Int32)) := by decide
          refine go (B := s₁.setTop (mkF m 30 #[.val (.double u1), .second, .val (.double u2), .second, .val (.double u3), .second, .val (.double u4), .second, .val (.double u5), .second, .val (.double u6), .second] [])) (fun _ k => XS.ifNo X0.here hx rfl (hb hby d1_27) rfl ((if0 _ _).trans (flt hc27).2.2.1) k) ?_
          refine go (B := s₁.setTop (mkF m 31 #[.val (.double u1), .second, .val (.double u2), .second, .val (.double u3), .second, .val (.double u4), .second, .val (.double u5), .second, .val (.double u6), .second] [(.int (1 : Int32))])) (fun _ k => XS.iconst X0.here hx rfl (hb hby d1_30) k) ?_
          refine go (B := s₁.setTop (mkF m 35 #[.val (.double u1), .second, .val (.double u2), .second, .val (.double u3), .second, .val (.double u4), .second, .val (.double u5), .second, .val (.double u6), .second] [(.int (1 : Int32))])) (fun _ k => XS.goto X0.here hx rfl (pc0 := 31) (pc' := 35) rfl (hb hby d1_31) (by decide) (by decide) k) ?_
          refine goRetN X0 hx (t := .boolean) Bd.returns (by simp) hlk (hb hby d1_35) ?_ (by decide) (by decide)
          rw [e0]
          have q : fRC j1 j2 j3 j4 j5 j6 = (1 : Int32) := fRC_one (by omega)
          exact ⟨by rw [q]; rfl, N0, rfl⟩
        · refine go (B := s₁.setTop (mkF m 27 #[.val (.double u1), .second, .val (.double u2), .second, .val (.double u3), .second, .val (.double u4), .second, .val (.double u5), .second, .val (.double u6), .second] [(.int (1 : Int32))])) (fun _ k => XD.dcmp X0.here hx rfl (hb hby d1_26) rfl (XD.gt D6 D4 hd26) k) ?_
          have hc27 : (0 : Int32) < (1 : Int32) := by decide
          refine go (B := s₁.setTop (mkF m 34 #[.val (.double u1), .second, .val (.double u2), .second, .val (.double u3), .second, .val (.double u4), .second, .val (.double u5), .second, .val (.double u6), .second] [])) (fun _ k => XS.ifYes X0.here hx rfl (pc0 := 27) (pc' := 34) rfl (hb hby d1_27) rfl ((if0 _ _).trans (tlt hc27).2.2.1) (by decide) (by decide) k) ?_
          refine go (B := s₁.setTop (mkF m 35 #[.val (.double u1), .second, .val (.double u2), .second, .val (.double u3), .second, .val (.double u4), .second, .val (.double u5), .second, .val (.double u6), .second] [(.int (0 : Int32))])) (fun _ k => XS.iconst X0.here hx rfl (hb hby d1_34) k) ?_
          refine goRetN X0 hx (t := .boolean) Bd.returns (by simp) hlk (hb hby d1_35) ?_ (by decide) (by decide)
          rw [e0]
          have q : fRC j1 j2 j3 j4 j5 j6 = (0 : Int32) := fRC_zero (by omega)
          exact ⟨by rw [q]; rfl, N0, rfl⟩
      · refine go (B := s₁.setTop (mkF m 19 #[.val (.double u1), .second, .val (.double u2), .second, .val (.double u3), .second, .val (.double u4), .second, .val (.double u5), .second, .val (.double u6), .second] [(.int (1 : Int32))])) (fun _ k => XD.dcmp X0.here hx rfl (hb hby d1_18) rfl (XD.gt D6 D2 hd18) k) ?_
        have hc19 : ¬ ((1 : Int32) < (0 : Int32)) := by decide
        refine go (B := s₁.setTop (mkF m 22 #[.val (.double u1), .second, .val (.double u2), .second, .val (.double u3), .second, .val (.double u4), .second, .val (.double u5), .second, .val (.double u6), .second] [])) (fun _ k => XS.ifNo X0.here hx rfl (hb hby d1_19) rfl ((if0 _ _).trans (flt hc19).1) k) ?_
        refine go (B := s₁.setTop (mkF m 24 #[.val (.double u1), .second, .val (.double u2), .second, .val (.double u3), .second, .val (.double u4), .second, .val (.double u5), .second, .val (.double u6), .second] [(.double u6)])) (fun _ k => XD.dload X0.here hx rfl (hb hby d1_22) rfl k) ?_
        refine go (B := s₁.setTop (mkF m 26 #[.val (.double u1), .second, .val (.double u2), .second, .val (.double u3), .second, .val (.double u4), .second, .val (.double u5), .second, .val (.double u6), .second] [(.double u4), (.double u6)])) (fun _ k => XD.dload X0.here hx rfl (hb hby d1_24) rfl k) ?_
        rcases Int.lt_trichotomy (j6) (j4) with hd26 | hd26 | hd26
        · refine go (B := s₁.setTop (mkF m 27 #[.val (.double u1), .second, .val (.double u2), .second, .val (.double u3), .second, .val (.double u4), .second, .val (.double u5), .second, .val (.double u6), .second] [(.int (-1 : Int32))])) (fun _ k => XD.dcmp X0.here hx rfl (hb hby d1_26) rfl (XD.lt D6 D4 hd26) k) ?_
          have hc27 : ¬ ((0 : Int32) < (-1 : Int32)) := by decide
          refine go (B := s₁.setTop (mkF m 30 #[.val (.double u1), .second, .val (.double u2), .second, .val (.double u3), .second, .val (.double u4), .second, .val (.double u5), .second, .val (.double u6), .second] [])) (fun _ k => XS.ifNo X0.here hx rfl (hb hby d1_27) rfl ((if0 _ _).trans (flt hc27).2.2.1) k) ?_
          refine go (B := s₁.setTop (mkF m 31 #[.val (.double u1), .second, .val (.double u2), .second, .val (.double u3), .second, .val (.double u4), .second, .val (.double u5), .second, .val (.double u6), .second] [(.int (1 : Int32))])) (fun _ k => XS.iconst X0.here hx rfl (hb hby d1_30) k) ?_
          refine go (B := s₁.setTop (mkF m 35 #[.val (.double u1), .second, .val (.double u2), .second, .val (.double u3), .second, .val (.double u4), .second, .val (.double u5), .second, .val (.double u6), .second] [(.int (1 : Int32))])) (fun _ k => XS.goto X0.here hx rfl (pc0 := 31) (pc' := 35) rfl (hb hby d1_31) (by decide) (by decide) k) ?_
          refine goRetN X0 hx (t := .boolean) Bd.returns (by simp) hlk (hb hby d1_35) ?_ (by decide) (by decide)
          rw [e0]
          have q : fRC j1 j2 j3 j4 j5 j6 = (1 : Int32) := fRC_one (by omega)
          exact ⟨by rw [q]; rfl, N0, rfl⟩
        · refine go (B := s₁.setTop (mkF m 27 #[.val (.double u1), .second, .val (.double u2), .second, .val (.double u3), .second, .val (.double u4), .second, .val (.double u5), .second, .val (.double u6), .second] [(.int (0 : Int32))])) (fun _ k => XD.dcmp X0.here hx rfl (hb hby d1_26) rfl (XD.eq D6 D4 hd26) k) ?_
          have hc27 : ¬ ((0 : Int32) < (0 : Int32)) := by decide
          refine go (B := s₁.setTop (mkF m 30 #[.val (.double u1), .second, .val (.double u2), .second, .val (.double u3), .second, .val (.double u4), .second, .val (.double u5), .second, .val (.double u6), .second] [])) (fun _ k => XS.ifNo X0.here hx rfl (hb hby d1_27) rfl ((if0 _ _).trans (flt hc27).2.2.1) k) ?_
          refine go (B := s₁.setTop (mkF m 31 #[.val (.double u1), .second, .val (.double u2), .second, .val (.double u3), .second, .val (.double u4), .second, .val (.double u5), .second, .val (.double u6), .second] [(.int (1 : Int32))])) (fun _ k => XS.iconst X0.here hx rfl (hb hby d1_30) k) ?_
          refine go (B := s₁.setTop (mkF m 35 #[.val (.double u1), .second, .val (.double u2), .second, .val (.double u3), .second, .val (.double u4), .second, .val (.double u5), .second, .val (.double u6), .second] [(.int (1 : Int32))])) (fun _ k => XS.goto X0.here hx rfl (pc0 := 31) (pc' := 35) rfl (hb hby d1_31) (by decide) (by decide) k) ?_
          refine goRetN X0 hx (t := .boolean) Bd.returns (by simp) hlk (hb hby d1_35) ?_ (by decide) (by decide)
          rw [e0]
          have q : fRC j1 j2 j3 j4 j5 j6 = (1 : Int32) := fRC_one (by omega)
          exact ⟨by rw [q]; rfl, N0, rfl⟩
        · refine go (B := s₁.setTop (mkF m 27 #[.val (.double u1), .second, .val (.double u2), .second, .val (.double u3), .second, .val (.double u4), .second, .val (.double u5), .second, .val (.double u6), .second] [(.int (1 : Int32))])) (fun _ k => XD.dcmp X0.here hx rfl (hb hby d1_26) rfl (XD.gt D6 D4 hd26) k) ?_
          have hc27 : (0 : Int32) < (1 : Int32) := by decide
          refine go (B := s₁.setTop (mkF m 34 #[.val (.double u1), .second, .val (.double u2), .second, .val (.double u3), .second, .val (.double u4), .second, .val (.double u5), .second, .val (.double u6), .second] [])) (fun _ k => XS.ifYes X0.here hx rfl (pc0 := 27) (pc' := 34) rfl (hb hby d1_27) rfl ((if0 _ _).trans (tlt hc27).2.2.1) (by decide) (by decide) k) ?_
          refine go (B := s₁.setTop (mkF m 35 #[.val (.double u1), .second, .val (.double u2), .second, .val (.double u3), .second, .val (.double u4), .second, .val (.double u5), .second, .val (.double u6), .second] [(.int (0 : Int32))])) (fun _ k => XS.iconst X0.here hx rfl (hb hby d1_34) k) ?_
          refine goRetN X0 hx (t := .boolean) Bd.returns (by simp) hlk (hb hby d1_35) ?_ (by decide) (by decide)
          rw [e0]
          have q : fRC j1 j2 j3 j4 j5 j6 = (0 : Int32) := fRC_zero (by omega)
          exact ⟨by rw [q]; rfl, N0, rfl⟩
    · refine go (B := s₁.setTop (mkF m 12 #[.val (.double u1), .second, .val (.double u2), .second, .val (.double u3), .second, .val (.double u4), .second, .val (.double u5), .second, .val (.double u6), .second] [(.int (0 : Int32))])) (fun _ k => XD.dcmp X0.here hx rfl (hb hby d1_11) rfl (XD.eq D5 D3 hd11) k) ?_
      have hc12 : ¬ ((0 : Int32) < (0 : Int32)) := by decide
      refine go (B := s₁.setTop (mkF m 15 #[.val (.double u1), .second, .val (.double u2), .second, .val (.double u3), .second, .val (.double u4), .second, .val (.double u5), .second, .val (.double u6), .second] [])) (fun _ k => XS.ifNo X0.here hx rfl (hb hby d1_12) rfl ((if0 _ _).trans (flt hc12).2.2.1) k) ?_
      refine go (B := s₁.setTop (mkF m 17 #[.val (.double u1), .second, .val (.double u2), .second, .val (.double u3), .second, .val (.double u4), .second, .val (.double u5), .second, .val (.double u6), .second] [(.double u6)])) (fun _ k => XD.dload X0.here hx rfl (hb hby d1_15) rfl k) ?_
      refine go (B := s₁.setTop (mkF m 18 #[.val (.double u1), .second, .val (.double u2), .second, .val (.double u3), .second, .val (.double u4), .second, .val (.double u5), .second, .val (.double u6), .second] [(.double u2), (.double u6)])) (fun _ k => XD.dloadN X0.here hx rfl (hb hby d1_17) rfl k) ?_
      rcases Int.lt_trichotomy (j6) (j2) with hd18 | hd18 | hd18
      · refine go (B := s₁.setTop (mkF m 19 #[.val (.double u1), .second, .val (.double u2), .second, .val (.double u3), .second, .val (.double u4), .second, .val (.double u5), .second, .val (.double u6), .second] [(.int (-1 : Int32))])) (fun _ k => XD.dcmp X0.here hx rfl (hb hby d1_18) rfl (XD.lt D6 D2 hd18) k) ?_
        have hc19 : (-1 : Int32) < (0 : Int32) := by decide
        refine go (B := s₁.setTop (mkF m 34 #[.val (.double u1), .second, .val (.double u2), .second, .val (.double u3), .second, .val (.double u4), .second, .val (.double u5), .second, .val (.double u6), .second] [])) (fun _ k => XS.ifYes X0.here hx rfl (pc0 := 19) (pc' := 34) rfl (hb hby d1_19) rfl ((if0 _ _).trans (tlt hc19).1) (by decide) (by decide) k) ?_
        refine go (B := s₁.setTop (mkF m 35 #[.val (.double u1), .second, .val (.double u2), .second, .val (.double u3), .second, .val (.double u4), .second, .val (.double u5), .second, .val (.double u6), .second] [(.int (0 : Int32))])) (fun _ k => XS.iconst X0.here hx rfl (hb hby d1_34) k) ?_
        refine goRetN X0 hx (t := .boolean) Bd.returns (by simp) hlk (hb hby d1_35) ?_ (by decide) (by decide)
        rw [e0]
        have q : fRC j1 j2 j3 j4 j5 j6 = (0 : Int32) := fRC_zero (by omega)
        exact ⟨by rw [q]; rfl, N0, rfl⟩
      · refine go (B := s₁.setTop (mkF m 19 #[.val (.double u1), .second, .val (.double u2), .second, .val (.double u3), .second, .val (.double u4), .second, .val (.double u5), .second, .val (.double u6), .second] [(.int (0 : Int32))])) (fun _ k => XD.dcmp X0.here hx rfl (hb hby d1_18) rfl (XD.eq D6 D2 hd18) k) ?_
        have hc19 : ¬ ((0 : Int32) < (0 : Int32)) := by decide
        refine go (B := s₁.setTop (mkF m 22 #[.val (.double u1), .second, .val (.double u2), .second, .val (.double u3), .second, .val (.double u4), .second, .val (.double u5), .second, .val (.double u6), .second] [])) (fun _ k => XS.ifNo X0.here hx rfl (hb hby d1_19) rfl ((if0 _ _).trans (flt hc19).1) k) ?_
        refine go (B := s₁.setTop (mkF m 24 #[.val (.double u1), .second, .val (.double u2), .second, .val (.double u3), .second, .val (.double u4), .second, .val (.double u5), .second, .val (.double u6), .second] [(.double u6)])) (fun _ k => XD.dload X0.here hx rfl (hb hby d1_22) rfl k) ?_
        refine go (B := s₁.setTop (mkF m 26 #[.val (.double u1), .second, .val (.double u2), .second, .val (.double u3), .second, .val (.double u4), .second, .val (.double u5), .second, .val (.double u6), .second] [(.double u4), (.double u6)])) (fun _ k => XD.dload X0.here hx rfl (hb hby d1_24) rfl k) ?_
        rcases Int.lt_trichotomy (j6) (j4) with hd26 | hd26 | hd26
        · refine go (B := s₁.setTop (mkF m 27 #[.val (.double u1), .second, .val (.double u2), .second, .val (.double u3), .second, .val (.double u4), .second, .val (.double u5), .second, .val (.double u6), .second] [(.int (-1 : Int32))])) (fun _ k => XD.dcmp X0.here hx rfl (hb hby d1_26) rfl (XD.lt D6 D4 hd26) k) ?_
          have hc27 : ¬ ((0 : Int32) < (-1 : Int32)) := by decide
          refine go (B := s₁.setTop (mkF m 30 #[.val (.double u1), .second, .val (.double u2), .second, .val (.double u3), .second, .val (.double u4), .second, .val (.double u5), .second, .val (.double u6), .second] [])) (fun _ k => XS.ifNo X0.here hx rfl (hb hby d1_27) rfl ((if0 _ _).trans (flt hc27).2.2.1) k) ?_
          refine go (B := s₁.setTop (mkF m 31 #[.val (.double u1), .second, .val (.double u2), .second, .val (.double u3), .second, .val (.double u4), .second, .val (.double u5), .second, .val (.double u6), .second] [(.int (1 : Int32))])) (fun _ k => XS.iconst X0.here hx rfl (hb hby d1_30) k) ?_
          refine go (B := s₁.setTop (mkF m 35 #[.val (.double u1), .second, .val (.double u2), .second, .val (.double u3), .second, .val (.double u4), .second, .val (.double u5), .second, .val (.double u6), .second] [(.int (1 : Int32))])) (fun _ k => XS.goto X0.here hx rfl (pc0 := 31) (pc' := 35) rfl (hb hby d1_31) (by decide) (by decide) k) ?_
          refine goRetN X0 hx (t := .boolean) Bd.returns (by simp) hlk (hb hby d1_35) ?_ (by decide) (by decide)
          rw [e0]
          have q : fRC j1 j2 j3 j4 j5 j6 = (1 : Int32) := fRC_one (by omega)
          exact ⟨by rw [q]; rfl, N0, rfl⟩
        · refine go (B := s₁.setTop (mkF m 27 #[.val (.double u1), .second, .val (.double u2), .second, .val (.double u3), .second, .val (.double u4), .second, .val (.double u5), .second, .val (.double u6), .second] [(.int (0 : Int32))])) (fun _ k => XD.dcmp X0.here hx rfl (hb hby d1_26) rfl (XD.eq D6 D4 hd26) k) ?_
          have hc27 : ¬ ((0 : Int32) < (0 : Int32)) := by decide
          refine go (B := s₁.setTop (mkF m 30 #[.val (.double u1), .second, .val (.double u2), .second, .val (.double u3), .second, .val (.double u4), .second, .val (.double u5), .second, .val (.double u6), .second] [])) (fun _ k => XS.ifNo X0.here hx rfl (hb hby d1_27) rfl ((if0 _ _).trans (flt hc27).2.2.1) k) ?_
          refine go (B := s₁.setTop (mkF m 31 #[.val (.double u1), .second, .val (.double u2), .second, .val (.double u3), .second, .val (.double u4), .second, .val (.double u5), .second, .val (.double u6), .second] [(.int (1 : Int32))])) (fun _ k => XS.iconst X0.here hx rfl (hb hby d1_30) k) ?_
          refine go (B := s₁.setTop (mkF m 35 #[.val (.double u1), .second, .val (.double u2), .second, .val (.double u3), .second, .val (.double u4), .second, .val (.double u5), .second, .val (.double u6), .second] [(.int (1 : Int32))])) (fun _ k => XS.goto X0.here hx rfl (pc0 := 31) (pc' := 35) rfl (hb hby d1_31) (by decide) (by decide) k) ?_
          refine goRetN X0 hx (t := .boolean) Bd.returns (by simp) hlk (hb hby d1_35) ?_ (by decide) (by decide)
          rw [e0]
          have q : fRC j1 j2 j3 j4 j5 j6 = (1 : Int32) := fRC_one (by omega)
          exact ⟨by rw [q]; rfl, N0, rfl⟩
        · refine go (B := s₁.setTop (mkF m 27 #[.val (.double u1), .second, .val (.double u2), .second, .val (.double u3), .second, .val (.double u4), .second, .val (.double u5), .second, .val (.double u6), .second] [(.int (1 : Int32))])) (fun _ k => XD.dcmp X0.here hx rfl (hb hby d1_26) rfl (XD.gt D6 D4 hd26) k) ?_
          have hc27 : (0 : Int32) < (1 : Int32) := by decide
          refine go (B := s₁.setTop (mkF m 34 #[.val (.double u1), .second, .val (.double u2), .second, .val (.double u3), .second, .val (.double u4), .second, .val (.double u5), .second, .val (.double u6), .second] [])) (fun _ k => XS.ifYes X0.here hx rfl (pc0 := 27) (pc' := 34) rfl (hb hby d1_27) rfl ((if0 _ _).trans (tlt hc27).2.2.1) (by decide) (by decide) k) ?_
          refine go (B := s₁.setTop (mkF m 35 #[.val (.double u1), .second, .val (.double u2), .second, .val (.double u3), .second, .val (.double u4), .second, .val (.double u5), .second, .val (.double u6), .second] [(.int (0 : Int32))])) (fun _ k => XS.iconst X0.here hx rfl (hb hby d1_34) k) ?_
          refine goRetN X0 hx (t := .boolean) Bd.returns (by simp) hlk (hb hby d1_35) ?_ (by decide) (by decide)
          rw [e0]
          have q : fRC j1 j2 j3 j4 j5 j6 = (0 : Int32) := fRC_zero (by omega)
          exact ⟨by rw [q]; rfl, N0, rfl⟩
      · refine go (B := s₁.setTop (mkF m 19 #[.val (.double u1), .second, .val (.double u2), .second, .val (.double u3), .second, .val (.double u4), .second, .val (.double u5), .second, .val (.double u6), .second] [(.int (1 : Int32))])) (fun _ k => XD.dcmp X0.here hx rfl (hb hby d1_18) rfl (XD.gt D6 D2 hd18) k) ?_
        have hc19 : ¬ ((1 : Int32) < (0 : Int32)) := by decide
        refine go (B := s₁.setTop (mkF m 22 #[.val (.double u1), .second, .val (.double u2), .second, .val (.double u3), .second, .val (.double u4), .second, .val (.double u5), .second, .val (.double u6), .second] [])) (fun _ k => XS.ifNo X0.here hx rfl (hb hby d1_19) rfl ((if0 _ _).trans (flt hc19).1) k) ?_
        refine go (B := s₁.setTop (mkF m 24 #[.val (.double u1), .second, .val (.double u2), .second, .val (.double u3), .second, .val (.double u4), .second, .val (.double u5), .second, .val (.double u6), .second] [(.double u6)])) (fun _ k => XD.dload X0.here hx rfl (hb hby d1_22) rfl k) ?_
        refine go (B := s₁.setTop (mkF m 26 #[.val (.double u1), .second, .val (.double u2), .second, .val (.double u3), .second, .val (.double u4), .second, .val (.double u5), .second, .val (.double u6), .second] [(.double u4), (.double u6)])) (fun _ k => XD.dload X0.here hx rfl (hb hby d1_24) rfl k) ?_
        rcases Int.lt_trichotomy (j6) (j4) with hd26 | hd26 | hd26
        · refine go (B := s₁.setTop (mkF m 27 #[.val (.double u1), .second, .val (.double u2), .second, .val (.double u3), .second, .val (.double u4), .second, .val (.double u5), .second, .val (.double u6), .second] [(.int (-1 : Int32))])) (fun _ k => XD.dcmp X0.here hx rfl (hb hby d1_26) rfl (XD.lt D6 D4 hd26) k) ?_
          have hc27 : ¬ ((0 : Int32) < (-1 : Int32)) := by decide
          refine go (B := s₁.setTop (mkF m 30 #[.val (.double u1), .second, .val (.double u2), .second, .val (.double u3), .second, .val (.double u4), .second, .val (.double u5), .second, .val (.double u6), .second] [])) (fun _ k => XS.ifNo X0.here hx rfl (hb hby d1_27) rfl ((if0 _ _).trans (flt hc27).2.2.1) k) ?_
          refine go (B := s₁.setTop (mkF m 31 #[.val (.double u1), .second, .val (.double u2), .second, .val (.double u3), .second, .val (.double u4), .second, .val (.double u5), .second, .val (.double u6), .second] [(.int (1 : Int32))])) (fun _ k => XS.iconst X0.here hx rfl (hb hby d1_30) k) ?_
          refine go (B := s₁.setTop (mkF m 35 #[.val (.double u1), .second, .val (.double u2), .second, .val (.double u3), .second, .val (.double u4), .second, .val (.double u5), .second, .val (.double u6), .second] [(.int (1 : Int32))])) (fun _ k => XS.goto X0.here hx rfl (pc0 := 31) (pc' := 35) rfl (hb hby d1_31) (by decide) (by decide) k) ?_
          refine goRetN X0 hx (t := .boolean) Bd.returns (by simp) hlk (hb hby d1_35) ?_ (by decide) (by decide)
          rw [e0]
          have q : fRC j1 j2 j3 j4 j5 j6 = (1 : Int32) := fRC_one (by omega)
          exact ⟨by rw [q]; rfl, N0, rfl⟩
        · refine go (B := s₁.setTop (mkF m 27 #[.val (.double u1), .second, .val (.double u2), .second, .val (.double u3), .second, .val (.double u4), .second, .val (.double u5), .second, .val (.double u6), .second] [(.int (0 : Int32))])) (fun _ k => XD.dcmp X0.here hx rfl (hb hby d1_26) rfl (XD.eq D6 D4 hd26) k) ?_
          have hc27 : ¬ ((0 : Int32) < (0 : Int32)) := by decide
          refine go (B := s₁.setTop (mkF m 30 #[.val (.double u1), .second, .val (.double u2), .second, .val (.double u3), .second, .val (.double u4), .second, .val (.double u5), .second, .val (.double u6), .second] [])) (fun _ k => XS.ifNo X0.here hx rfl (hb hby d1_27) rfl ((if0 _ _).trans (flt hc27).2.2.1) k) ?_
          refine go (B := s₁.setTop (mkF m 31 #[.val (.double u1), .second, .val (.double u2), .second, .val (.double u3), .second, .val (.double u4), .second, .val (.double u5), .second, .val (.double u6), .second] [(.int (1 : Int32))])) (fun _ k => XS.iconst X0.here hx rfl (hb hby d1_30) k) ?_
          refine go (B := s₁.setTop (mkF m 35 #[.val (.double u1), .second, .val (.double u2), .second, .val (.double u3), .second, .val (.double u4), .second, .val (.double u5), .second, .val (.double u6), .second] [(.int (1 : Int32))])) (fun _ k => XS.goto X0.here hx rfl (pc0 := 31) (pc' := 35) rfl (hb hby d1_31) (by decide) (by decide) k) ?_
          refine goRetN X0 hx (t := .boolean) Bd.returns (by simp) hlk (hb hby d1_35) ?_ (by decide) (by decide)
          rw [e0]
          have q : fRC j1 j2 j3 j4 j5 j6 = (1 : Int32) := fRC_one (by omega)
          exact ⟨by rw [q]; rfl, N0, rfl⟩
        · refine go (B := s₁.setTop (mkF m 27 #[.val (.double u1), .second, .val (.double u2), .second, .val (.double u3), .second, .val (.double u4), .second, .val (.double u5), .second, .val (.double u6), .second] [(.int (1 : Int32))])) (fun _ k => XD.dcmp X0.here hx rfl (hb hby d1_26) rfl (XD.gt D6 D4 hd26) k) ?_
          have hc27 : (0 : Int32) < (1 : Int32) := by decide
          refine go (B := s₁.setTop (mkF m 34 #[.val (.double u1), .second, .val (.double u2), .second, .val (.double u3), .second, .val (.double u4), .second, .val (.double u5), .second, .val (.double u6), .second] [])) (fun _ k => XS.ifYes X0.here hx rfl (pc0 := 27) (pc' := 34) rfl (hb hby d1_27) rfl ((if0 _ _).trans (tlt hc27).2.2.1) (by decide) (by decide) k) ?_
          refine go (B := s₁.setTop (mkF m 35 #[.val (.double u1), .second, .val (.double u2), .second, .val (.double u3), .second, .val (.double u4), .second, .val (.double u5), .second, .val (.double u6), .second] [(.int (0 : Int32))])) (fun _ k => XS.iconst X0.here hx rfl (hb hby d1_34) k) ?_
          refine goRetN X0 hx (t := .boolean) Bd.returns (by simp) hlk (hb hby d1_35) ?_ (by decide) (by decide)
          rw [e0]
          have q : fRC j1 j2 j3 j4 j5 j6 = (0 : Int32) := fRC_zero (by omega)
          exact ⟨by rw [q]; rfl, N0, rfl⟩
    · refine go (B := s₁.setTop (mkF m 12 #[.val (.double u1), .second, .val (.double u2), .second, .val (.double u3), .second, .val (.double u4), .second, .val (.double u5), .second, .val (.double u6), .second] [(.int (1 : Int32))])) (fun _ k => XD.dcmp X0.here hx rfl (hb hby d1_11) rfl (XD.gt D5 D3 hd11) k) ?_
      have hc12 : (0 : Int32) < (1 : Int32) := by decide
      refine go (B := s₁.setTop (mkF m 34 #[.val (.double u1), .second, .val (.double u2), .second, .val (.double u3), .second, .val (.double u4), .second, .val (.double u5), .second, .val (.double u6), .second] [])) (fun _ k => XS.ifYes X0.here hx rfl (pc0 := 12) (pc' := 34) rfl (hb hby d1_12) rfl ((if0 _ _).trans (tlt hc12).2.2.1) (by decide) (by decide) k) ?_
      refine go (B := s₁.setTop (mkF m 35 #[.val (.double u1), .second, .val (.double u2), .second, .val (.double u3), .second, .val (.double u4), .second, .val (.double u5), .second, .val (.double u6), .second] [(.int (0 : Int32))])) (fun _ k => XS.iconst X0.here hx rfl (hb hby d1_34) k) ?_
      refine goRetN X0 hx (t := .boolean) Bd.returns (by simp) hlk (hb hby d1_35) ?_ (by decide) (by decide)
      rw [e0]
      have q : fRC j1 j2 j3 j4 j5 j6 = (0 : Int32) := fRC_zero (by omega)
      exact ⟨by rw [q]; rfl, N0, rfl⟩
theorem ef_rm0 (m : MethodId) (p1 : Int32) (p2 : Int32) (p3 : Int32) (p4 : Int32) (p5 : Int32) (p6 : Int32) : entryFrame m #[(.int p1), (.int p2), (.int p3), (.int p4), (.int p5), (.int p6)] maxLocals = mkF m 0 #[.val (.int p1), .val (.int p2), .val (.int p3), .val (.int p4), .val (.int p5), .val (.int p6), .unset, .unset] [] := by first | (simp [entryFrame, mkF, argsToLocals, Value.category, maxLocals]; done) | rfl
def Q0 (Z : State) (p1 : Int32) (p2 : Int32) (p3 : Int32) (p4 : Int32) (p5 : Int32) (p6 : Int32) (h0 : Heap) (n0 : Nat) (v : Option Value) (h : Heap) (L : List Loc) : Prop := v = some (.int 1) ∧ Fr n0 L
theorem pd__DDDDDD_Z : parseMethodDescriptor "(DDDDDD)Z" = some ⟨[.double, .double, .double, .double, .double, .double], some .boolean⟩ := by decide +kernel
theorem pd__III_Z : parseMethodDescriptor "(III)Z" = some ⟨[.int, .int, .int], some .boolean⟩ := by decide +kernel
set_option maxRecDepth 65536 in
set_option maxHeartbeats 40000000 in
theorem rm0 (l : Launch) (Z : State) (a0 : Array Value) (hw : ∀ d ∈ tables_1, d.before a0 Z = true) (ws : List Jvm.Cond) (p1 : Int32) (p2 : Int32) (p3 : Int32) (p4 : Int32) (p5 : Int32) (p6 : Int32) (h0 : Heap) (n0 : Nat) (Z0 : n0 ≤ h0.size) :
    MetFree l x (head1 (Jvm.Cond.code x code maxLocals ret :: ws) room_1) (fun a U => a = #[(.int p1), (.int p2), (.int p3), (.int p4), (.int p5), (.int p6)] ∧ Z.Warmed39 U.vm ∧ U.heap = h0) (fun _ _ _ _ _ => True) (fun _ U o U' => ∃ v L, o = .returned v ∧ Q0 Z p1 p2 p3 p4 p5 p6 h0 n0 v U'.heap L ∧ FrameEnd U o U' L room_1.cells room_1.slots) := by
  refine MetFree.of_bodySF (plainFor_of_name pn_com_example_eel_river_eelriver_space_RectangleContainsPinLaw) hisR ?_
  intro p e s m args below meth c s₁ Bd hml0 hP hK
  obtain ⟨rfl, hZ, hh⟩ := hP
  have hx := Bd.exec
  have hby := Bd.bytes
  have hml : c.maxLocals = 8 := hml0
  have hown : s.vm.findClass "com/example/eel_river/eelriver/space/RectangleContainsPinLaw" = some m.cls := findClass_of_methodNamed Bd.named
  have hnm := (name_of_methodNamed Bd.named Bd.method).1
  have hlk := Bd.notSynchronized
  have X0 : Stand p l e room_1 s m #[(.int p1), (.int p2), (.int p3), (.int p4), (.int p5), (.int p6)] below meth c s₁ [] 0 0 := Stand.of_body Bd
  have e0 : s₁.heap = h0 := by rw [← hh, Bd.state]; rfl
  have N0 := Fr.nil n0
  show Go p.tables e below s room_1.cells room_1.slots (Q0 Z p1 p2 p3 p4 p5 p6 h0 n0) _
  refine go (fun t k => castTop (ef_rm0 m p1 p2 p3 p4 p5 p6) k) ?_
  refine go (B := s₁.setTop (mkF m 1 #[.val (.int p1), .val (.int p2), .val (.int p3), .val (.int p4), .val (.int p5), .val (.int p6), .unset, .unset] [(.int p1)])) (fun _ k => XS.iloadN X0.here hx rfl (hb hby at_0) rfl k) ?_
  refine go (B := s₁.setTop (mkF m 2 #[.val (.int p1), .val (.int p2), .val (.int p3), .val (.int p4), .val (.int p5), .val (.int p6), .unset, .unset] [(.double (FP.i2d p1))])) (fun _ k => XD.i2d X0.here hx rfl (hb hby at_1) rfl k) ?_
  refine go (B := s₁.setTop (mkF m 3 #[.val (.int p1), .val (.int p2), .val (.int p3), .val (.int p4), .val (.int p5), .val (.int p6), .unset, .unset] [(.int p2), (.double (FP.i2d p1))])) (fun _ k => XS.iloadN X0.here hx rfl (hb hby at_2) rfl k) ?_
  refine go (B := s₁.setTop (mkF m 4 #[.val (.int p1), .val (.int p2), .val (.int p3), .val (.int p4), .val (.int p5), .val (.int p6), .unset, .unset] [(.double (FP.i2d p2)), (.double (FP.i2d p1))])) (fun _ k => XD.i2d X0.here hx rfl (hb hby at_3) rfl k) ?_
  refine go (B := s₁.setTop (mkF m 5 #[.val (.int p1), .val (.int p2), .val (.int p3), .val (.int p4), .val (.int p5), .val (.int p6), .unset, .unset] [(.int p3), (.double (FP.i2d p2)), (.double (FP.i2d p1))])) (fun _ k => XS.iloadN X0.here hx rfl (hb hby at_4) rfl k) ?_
  refine go (B := s₁.setTop (mkF m 6 #[.val (.int p1), .val (.int p2), .val (.int p3), .val (.int p4), .val (.int p5), .val (.int p6), .unset, .unset] [(.double (FP.i2d p3)), (.double (FP.i2d p2)), (.double (FP.i2d p1))])) (fun _ k => XD.i2d X0.here hx rfl (hb hby at_5) rfl k) ?_
  refine go (B := s₁.setTop (mkF m 7 #[.val (.int p1), .val (.int p2), .val (.int p3), .val (.int p4), .val (.int p5), .val (.int p6), .unset, .unset] [(.int p4), (.double (FP.i2d p3)), (.double (FP.i2d p2)), (.double (FP.i2d p1))])) (fun _ k => XS.iloadN X0.here hx rfl (hb hby at_6) rfl k) ?_
  refine go (B := s₁.setTop (mkF m 8 #[.val (.int p1), .val (.int p2), .val (.int p3), .val (.int p4), .val (.int p5), .val (.int p6), .unset, .unset] [(.double (FP.i2d p4)), (.double (FP.i2d p3)), (.double (FP.i2d p2)), (.double (FP.i2d p1))])) (fun _ k => XD.i2d X0.here hx rfl (hb hby at_7) rfl k) ?_
  refine go (B := s₁.setTop (mkF m 10 #[.val (.int p1), .val (.int p2), .val (.int p3), .val (.int p4), .val (.int p5), .val (.int p6), .unset, .unset] [(.int p5), (.double (FP.i2d p4)), (.double (FP.i2d p3)), (.double (FP.i2d p2)), (.double (FP.i2d p1))])) (fun _ k => XS.iload X0.here hx rfl (hb hby at_8) rfl k) ?_
  refine go (B := s₁.setTop (mkF m 11 #[.val (.int p1), .val (.int p2), .val (.int p3), .val (.int p4), .val (.int p5), .val (.int p6), .unset, .unset] [(.double (FP.i2d p5)), (.double (FP.i2d p4)), (.double (FP.i2d p3)), (.double (FP.i2d p2)), (.double (FP.i2d p1))])) (fun _ k => XD.i2d X0.here hx rfl (hb hby at_10) rfl k) ?_
  refine go (B := s₁.setTop (mkF m 13 #[.val (.int p1), .val (.int p2), .val (.int p3), .val (.int p4), .val (.int p5), .val (.int p6), .unset, .unset] [(.int p6), (.double (FP.i2d p5)), (.double (FP.i2d p4)), (.double (FP.i2d p3)), (.double (FP.i2d p2)), (.double (FP.i2d p1))])) (fun _ k => XS.iload X0.here hx rfl (hb hby at_11) rfl k) ?_
  refine go (B := s₁.setTop (mkF m 14 #[.val (.int p1), .val (.int p2), .val (.int p3), .val (.int p4), .val (.int p5), .val (.int p6), .unset, .unset] [(.double (FP.i2d p6)), (.double (FP.i2d p5)), (.double (FP.i2d p4)), (.double (FP.i2d p3)), (.double (FP.i2d p2)), (.double (FP.i2d p1))])) (fun _ k => XD.i2d X0.here hx rfl (hb hby at_13) rfl k) ?_
  obtain ⟨_, _, ⟨T1, L1, k1, n1⟩, -, X1, ⟨Lc1, hQ1, l1, y1, z1⟩, st1⟩ := Jvm.LawKit.callS X0 hx (y := (⟨"com/example/eel_river/eelriver/space/Rectangle", "contains", "(DDDDDD)Z"⟩ : MethodName)) hown (mvT hZ (hw _ (List.mem_of_getElem? (i := 0) rfl))) (mvT hZ (hw _ (List.mem_of_getElem? (i := 1) rfl))) (mvT hZ (hw _ (List.mem_of_getElem? (i := 2) rfl))) (mvT hZ (hw _ (List.mem_of_getElem? (i := 3) rfl))) (by decide) (backOf (W := 0) (rm1 l Z a0 hw [] (FP.i2d p1) (FP.i2d p2) (FP.i2d p3) (FP.i2d p4) (FP.i2d p5) (FP.i2d p6) (p1.toInt) (p2.toInt) (p3.toInt) (p4.toInt) (p5.toInt) (p6.toInt) h0 n0 Z0 (FP.Core.i2d_int p1) (FP.Core.i2d_int p2) (FP.Core.i2d_int p3) (FP.Core.i2d_int p4) (FP.Core.i2d_int p5) (FP.Core.i2d_int p6)) hZ (hw _ (List.mem_of_getElem? (i := 3) rfl)) (hw _ (List.mem_of_getElem? (i := 2) rfl)) (by decide) (by decide)) (g := (mkF m 14 #[.val (.int p1), .val (.int p2), .val (.int p3), .val (.int p4), .val (.int p5), .val (.int p6), .unset, .unset] [(.double (FP.i2d p6)), (.double (FP.i2d p5)), (.double (FP.i2d p4)), (.double (FP.i2d p3)), (.double (FP.i2d p2)), (.double (FP.i2d p1))])) rfl (by rw [hml]; rfl) (argsL := [(.double (FP.i2d p1)), (.double (FP.i2d p2)), (.double (FP.i2d p3)), (.double (FP.i2d p4)), (.double (FP.i2d p5)), (.double (FP.i2d p6))]) (rest := []) (lenOf pd__DDDDDD_Z rfl) rfl (by show 2 * 0 + _ ≤ _; exact Nat.le_of_eq rfl) (hb hby at_14) (fun _ _ => ⟨rfl, e0, (by decide : 0 + 0 ≤ _), (by decide : 0 + 0 ≤ _)⟩)
  dsimp only [Pt.U, Pt.locs, Pt.cells, Pt.slots] at X1 l1 y1 z1 st1 hQ1
  subst l1 y1 z1
  obtain ⟨rfl, N1q, e1⟩ := hQ1
  have N1 := Fr.app N0 N1q
  refine go (B := T1.setTop (mkF m 17 #[.val (.int p1), .val (.int p2), .val (.int p3), .val (.int p4), .val (.int p5), .val (.int p6), .unset, .unset] [(.int (fRC (p1.toInt) (p2.toInt) (p3.toInt) (p4.toInt) (p5.toInt) (p6.toInt)))])) (fun _ k => st1 _ k) ?_
  refine go (B := T1.setTop (mkF m 19 #[.val (.int p1), .val (.int p2), .val (.int p3), .val (.int p4), .val (.int p5), .val (.int p6), .val (.int (fRC (p1.toInt) (p2.toInt) (p3.toInt) (p4.toInt) (p5.toInt) (p6.toInt))), .unset] [])) (fun _ k => XS.istore X1.here hx rfl (hb hby at_17) rfl (l' := #[.val (.int p1), .val (.int p2), .val (.int p3), .val (.int p4), .val (.int p5), .val (.int p6), .val (.int (fRC (p1.toInt) (p2.toInt) (p3.toInt) (p4.toInt) (p5.toInt) (p6.toInt))), .unset]) rfl k) ?_
  refine go (B := T1.setTop (mkF m 20 #[.val (.int p1), .val (.int p2), .val (.int p3), .val (.int p4), .val (.int p5), .val (.int p6), .val (.int (fRC (p1.toInt) (p2.toInt) (p3.toInt) (p4.toInt) (p5.toInt) (p6.toInt))), .unset] [(.int p1)])) (fun _ k => XS.iloadN X1.here hx rfl (hb hby at_19) rfl k) ?_
  refine go (B := T1.setTop (mkF m 21 #[.val (.int p1), .val (.int p2), .val (.int p3), .val (.int p4), .val (.int p5), .val (.int p6), .val (.int (fRC (p1.toInt) (p2.toInt) (p3.toInt) (p4.toInt) (p5.toInt) (p6.toInt))), .unset] [(.int p3), (.int p1)])) (fun _ k => XS.iloadN X1.here hx rfl (hb hby at_20) rfl k) ?_
  refine go (B := T1.setTop (mkF m 23 #[.val (.int p1), .val (.int p2), .val (.int p3), .val (.int p4), .val (.int p5), .val (.int p6), .val (.int (fRC (p1.toInt) (p2.toInt) (p3.toInt) (p4.toInt) (p5.toInt) (p6.toInt))), .unset] [(.int p5), (.int p3), (.int p1)])) (fun _ k => XS.iload X1.here hx rfl (hb hby at_21) rfl k) ?_
  obtain ⟨_, _, ⟨T2, L2, k2, n2⟩, -, X2, ⟨Lc2, hQ2, l2, y2, z2⟩, st2⟩ := Jvm.LawKit.callS X1 hx (y := (⟨"com/example/eel_river/eelriver/space/RectangleContainsPinLaw", "within", "(III)Z"⟩ : MethodName)) hown (mvT hZ (hw _ (List.mem_of_getElem? (i := 4) rfl))) (mvT hZ (hw _ (List.mem_of_getElem? (i := 5) rfl))) (mvT hZ (hw _ (List.mem_of_getElem? (i := 6) rfl))) (mvT hZ (hw _ (List.mem_of_getElem? (i := 7) rfl))) (by decide) (backOf (W := 0) (rm2 l Z a0 hw [] p1 p3 p5 h0 n0 Z0) hZ (hw _ (List.mem_of_getElem? (i := 7) rfl)) (hw _ (List.mem_of_getElem? (i := 6) rfl)) (by decide) (by decide)) (g := (mkF m 23 #[.val (.int p1), .val (.int p2), .val (.int p3), .val (.int p4), .val (.int p5), .val (.int p6), .val (.int (fRC (p1.toInt) (p2.toInt) (p3.toInt) (p4.toInt) (p5.toInt) (p6.toInt))), .unset] [(.int p5), (.int p3), (.int p1)])) rfl (by rw [hml]; rfl) (argsL := [(.int p1), (.int p3), (.int p5)]) (rest := []) (lenOf pd__III_Z rfl) rfl (by show 2 * 0 + _ ≤ _; exact Nat.le_of_eq rfl) (hb hby at_23) (fun _ _ => ⟨rfl, e1, (by decide : 0 + 0 ≤ _), (by decide : 0 + 0 ≤ _)⟩)
  dsimp only [Pt.U, Pt.locs, Pt.cells, Pt.slots] at X2 l2 y2 z2 st2 hQ2
  subst l2 y2 z2
  obtain ⟨rfl, N2q, e2⟩ := hQ2
  have N2 := Fr.app N1 N2q
  refine go (B := T2.setTop (mkF m 26 #[.val (.int p1), .val (.int p2), .val (.int p3), .val (.int p4), .val (.int p5), .val (.int p6), .val (.int (fRC (p1.toInt) (p2.toInt) (p3.toInt) (p4.toInt) (p5.toInt) (p6.toInt))), .unset] [(.int (fWi p1 p3 p5))])) (fun _ k => st2 _ k) ?_
  by_cases hc26 : (fWi p1 p3 p5) = (0 : Int32)
  · refine go (B := T2.setTop (mkF m 43 #[.val (.int p1), .val (.int p2), .val (.int p3), .val (.int p4), .val (.int p5), .val (.int p6), .val (.int (fRC (p1.toInt) (p2.toInt) (p3.toInt) (p4.toInt) (p5.toInt) (p6.toInt))), .unset] [])) (fun _ k => XS.ifYes X2.here hx rfl (pc0 := 26) (pc' := 43) rfl (hb hby at_26) rfl ((if0 _ _).trans (teq hc26).1) (by decide) (by decide) k) ?_
    refine go (B := T2.setTop (mkF m 44 #[.val (.int p1), .val (.int p2), .val (.int p3), .val (.int p4), .val (.int p5), .val (.int p6), .val (.int (fRC (p1.toInt) (p2.toInt) (p3.toInt) (p4.toInt) (p5.toInt) (p6.toInt))), .unset] [(.int (0 : Int32))])) (fun _ k => XS.iconst X2.here hx rfl (hb hby at_43) k) ?_
    refine go (B := T2.setTop (mkF m 46 #[.val (.int p1), .val (.int p2), .val (.int p3), .val (.int p4), .val (.int p5), .val (.int p6), .val (.int (fRC (p1.toInt) (p2.toInt) (p3.toInt) (p4.toInt) (p5.toInt) (p6.toInt))), .val (.int (0 : Int32))] [])) (fun _ k => XS.istore X2.here hx rfl (hb hby at_44) rfl (l' := #[.val (.int p1), .val (.int p2), .val (.int p3), .val (.int p4), .val (.int p5), .val (.int p6), .val (.int (fRC (p1.toInt) (p2.toInt) (p3.toInt) (p4.toInt) (p5.toInt) (p6.toInt))), .val (.int (0 : Int32))]) rfl k) ?_
    refine go (B := T2.setTop (mkF m 48 #[.val (.int p1), .val (.int p2), .val (.int p3), .val (.int p4), .val (.int p5), .val (.int p6), .val (.int (fRC (p1.toInt) (p2.toInt) (p3.toInt) (p4.toInt) (p5.toInt) (p6.toInt))), .val (.int (0 : Int32))] [(.int (fRC (p1.toInt) (p2.toInt) (p3.toInt) (p4.toInt) (p5.toInt) (p6.toInt)))])) (fun _ k => XS.iload X2.here hx rfl (hb hby at_46) rfl k) ?_
    refine go (B := T2.setTop (mkF m 50 #[.val (.int p1), .val (.int p2), .val (.int p3), .val (.int p4), .val (.int p5), .val (.int p6), .val (.int (fRC (p1.toInt) (p2.toInt) (p3.toInt) (p4.toInt) (p5.toInt) (p6.toInt))), .val (.int (0 : Int32))] [(.int (0 : Int32)), (.int (fRC (p1.toInt) (p2.toInt) (p3.toInt) (p4.toInt) (p5.toInt) (p6.toInt)))])) (fun _ k => XS.iload X2.here hx rfl (hb hby at_48) rfl k) ?_
    by_cases hc50 : (fRC (p1.toInt) (p2.toInt) (p3.toInt) (p4.toInt) (p5.toInt) (p6.toInt)) = (0 : Int32)
    · refine go (B := T2.setTop (mkF m 53 #[.val (.int p1), .val (.int p2), .val (.int p3), .val (.int p4), .val (.int p5), .val (.int p6), .val (.int (fRC (p1.toInt) (p2.toInt) (p3.toInt) (p4.toInt) (p5.toInt) (p6.toInt))), .val (.int (0 : Int32))] [])) (fun _ k => XS.icmpNo X2.here hx rfl (hb hby at_50) rfl (teq hc50).2 k) ?_
      refine go (B := T2.setTop (mkF m 54 #[.val (.int p1), .val (.int p2), .val (.int p3), .val (.int p4), .val (.int p5), .val (.int p6), .val (.int (fRC (p1.toInt) (p2.toInt) (p3.toInt) (p4.toInt) (p5.toInt) (p6.toInt))), .val (.int (0 : Int32))] [(.int (1 : Int32))])) (fun _ k => XS.iconst X2.here hx rfl (hb hby at_53) k) ?_
      refine go (B := T2.setTop (mkF m 58 #[.val (.int p1), .val (.int p2), .val (.int p3), .val (.int p4), .val (.int p5), .val (.int p6), .val (.int (fRC (p1.toInt) (p2.toInt) (p3.toInt) (p4.toInt) (p5.toInt) (p6.toInt))), .val (.int (0 : Int32))] [(.int (1 : Int32))])) (fun _ k => XS.goto X2.here hx rfl (pc0 := 54) (pc' := 58) rfl (hb hby at_54) (by decide) (by decide) k) ?_
      refine goRetN X2 hx (t := .boolean) Bd.returns (by simp) hlk (hb hby at_58) ?_ (by decide) (by decide)
      rw [e2]
      exact ⟨rfl, N2⟩
    · refine go (B := T2.setTop (mkF m 57 #[.val (.int p1), .val (.int p2), .val (.int p3), .val (.int p4), .val (.int p5), .val (.int p6), .val (.int (fRC (p1.toInt) (p2.toInt) (p3.toInt) (p4.toInt) (p5.toInt) (p6.toInt))), .val (.int (0 : Int32))] [])) (fun _ k => XS.icmpYes X2.here hx rfl (pc0 := 50) (pc' := 57) rfl (hb hby at_50) rfl (feq hc50).2 (by decide) (by decide) k) ?_
      refine go (B := T2.setTop (mkF m 58 #[.val (.int p1), .val (.int p2), .val (.int p3), .val (.int p4), .val (.int p5), .val (.int p6), .val (.int (fRC (p1.toInt) (p2.toInt) (p3.toInt) (p4.toInt) (p5.toInt) (p6.toInt))), .val (.int (0 : Int32))] [(.int (0 : Int32))])) (fun _ k => XS.iconst X2.here hx rfl (hb hby at_57) k) ?_
      refine goRetN X2 hx (t := .boolean) Bd.returns (by simp) hlk (hb hby at_58) ?_ (by decide) (by decide)
      rw [e2]
      exfalso
      have q := fRC_int (p1.toInt) (p2.toInt) (p3.toInt) (p4.toInt) (p5.toInt) (p6.toInt)
      have v1 := fWi_int p1 p3 p5
      have v2 := fWi_int p2 p4 p6
      simp only [Int32.lt_iff_toInt_lt, Int64.lt_iff_toInt_lt, ← Int32.toInt_inj, ← Int64.toInt_inj, Int32.reduceToInt, Int64.reduceToInt] at  hc26 hc50
      omega
  · refine go (B := T2.setTop (mkF m 29 #[.val (.int p1), .val (.int p2), .val (.int p3), .val (.int p4), .val (.int p5), .val (.int p6), .val (.int (fRC (p1.toInt) (p2.toInt) (p3.toInt) (p4.toInt) (p5.toInt) (p6.toInt))), .unset] [])) (fun _ k => XS.ifNo X2.here hx rfl (hb hby at_26) rfl ((if0 _ _).trans (feq hc26).1) k) ?_
    refine go (B := T2.setTop (mkF m 30 #[.val (.int p1), .val (.int p2), .val (.int p3), .val (.int p4), .val (.int p5), .val (.int p6), .val (.int (fRC (p1.toInt) (p2.toInt) (p3.toInt) (p4.toInt) (p5.toInt) (p6.toInt))), .unset] [(.int p2)])) (fun _ k => XS.iloadN X2.here hx rfl (hb hby at_29) rfl k) ?_
    refine go (B := T2.setTop (mkF m 31 #[.val (.int p1), .val (.int p2), .val (.int p3), .val (.int p4), .val (.int p5), .val (.int p6), .val (.int (fRC (p1.toInt) (p2.toInt) (p3.toInt) (p4.toInt) (p5.toInt) (p6.toInt))), .unset] [(.int p4), (.int p2)])) (fun _ k => XS.iloadN X2.here hx rfl (hb hby at_30) rfl k) ?_
    refine go (B := T2.setTop (mkF m 33 #[.val (.int p1), .val (.int p2), .val (.int p3), .val (.int p4), .val (.int p5), .val (.int p6), .val (.int (fRC (p1.toInt) (p2.toInt) (p3.toInt) (p4.toInt) (p5.toInt) (p6.toInt))), .unset] [(.int p6), (.int p4), (.int p2)])) (fun _ k => XS.iload X2.here hx rfl (hb hby at_31) rfl k) ?_
    obtain ⟨_, _, ⟨T3, L3, k3, n3⟩, -, X3, ⟨Lc3, hQ3, l3, y3, z3⟩, st3⟩ := Jvm.LawKit.callS X2 hx (y := (⟨"com/example/eel_river/eelriver/space/RectangleContainsPinLaw", "within", "(III)Z"⟩ : MethodName)) hown (mvT hZ (hw _ (List.mem_of_getElem? (i := 4) rfl))) (mvT hZ (hw _ (List.mem_of_getElem? (i := 5) rfl))) (mvT hZ (hw _ (List.mem_of_getElem? (i := 6) rfl))) (mvT hZ (hw _ (List.mem_of_getElem? (i := 7) rfl))) (by decide) (backOf (W := 0) (rm2 l Z a0 hw [] p2 p4 p6 h0 n0 Z0) hZ (hw _ (List.mem_of_getElem? (i := 7) rfl)) (hw _ (List.mem_of_getElem? (i := 6) rfl)) (by decide) (by decide)) (g := (mkF m 33 #[.val (.int p1), .val (.int p2), .val (.int p3), .val (.int p4), .val (.int p5), .val (.int p6), .val (.int (fRC (p1.toInt) (p2.toInt) (p3.toInt) (p4.toInt) (p5.toInt) (p6.toInt))), .unset] [(.int p6), (.int p4), (.int p2)])) rfl (by rw [hml]; rfl) (argsL := [(.int p2), (.int p4), (.int p6)]) (rest := []) (lenOf pd__III_Z rfl) rfl (by show 2 * 0 + _ ≤ _; exact Nat.le_of_eq rfl) (hb hby at_33) (fun _ _ => ⟨rfl, e2, (by decide : 0 + 0 ≤ _), (by decide : 0 + 0 ≤ _)⟩)
    dsimp only [Pt.U, Pt.locs, Pt.cells, Pt.slots] at X3 l3 y3 z3 st3 hQ3
    subst l3 y3 z3
    obtain ⟨rfl, N3q, e3⟩ := hQ3
    have N3 := Fr.app N2 N3q
    refine go (B := T3.setTop (mkF m 36 #[.val (.int p1), .val (.int p2), .val (.int p3), .val (.int p4), .val (.int p5), .val (.int p6), .val (.int (fRC (p1.toInt) (p2.toInt) (p3.toInt) (p4.toInt) (p5.toInt) (p6.toInt))), .unset] [(.int (fWi p2 p4 p6))])) (fun _ k => st3 _ k) ?_
    by_cases hc36 : (fWi p2 p4 p6) = (0 : Int32)
    · refine go (B := T3.setTop (mkF m 43 #[.val (.int p1), .val (.int p2), .val (.int p3), .val (.int p4), .val (.int p5), .val (.int p6), .val (.int (fRC (p1.toInt) (p2.toInt) (p3.toInt) (p4.toInt) (p5.toInt) (p6.toInt))), .unset] [])) (fun _ k => XS.ifYes X3.here hx rfl (pc0 := 36) (pc' := 43) rfl (hb hby at_36) rfl ((if0 _ _).trans (teq hc36).1) (by decide) (by decide) k) ?_
      refine go (B := T3.setTop (mkF m 44 #[.val (.int p1), .val (.int p2), .val (.int p3), .val (.int p4), .val (.int p5), .val (.int p6), .val (.int (fRC (p1.toInt) (p2.toInt) (p3.toInt) (p4.toInt) (p5.toInt) (p6.toInt))), .unset] [(.int (0 : Int32))])) (fun _ k => XS.iconst X3.here hx rfl (hb hby at_43) k) ?_
      refine go (B := T3.setTop (mkF m 46 #[.val (.int p1), .val (.int p2), .val (.int p3), .val (.int p4), .val (.int p5), .val (.int p6), .val (.int (fRC (p1.toInt) (p2.toInt) (p3.toInt) (p4.toInt) (p5.toInt) (p6.toInt))), .val (.int (0 : Int32))] [])) (fun _ k => XS.istore X3.here hx rfl (hb hby at_44) rfl (l' := #[.val (.int p1), .val (.int p2), .val (.int p3), .val (.int p4), .val (.int p5), .val (.int p6), .val (.int (fRC (p1.toInt) (p2.toInt) (p3.toInt) (p4.toInt) (p5.toInt) (p6.toInt))), .val (.int (0 : Int32))]) rfl k) ?_
      refine go (B := T3.setTop (mkF m 48 #[.val (.int p1), .val (.int p2), .val (.int p3), .val (.int p4), .val (.int p5), .val (.int p6), .val (.int (fRC (p1.toInt) (p2.toInt) (p3.toInt) (p4.toInt) (p5.toInt) (p6.toInt))), .val (.int (0 : Int32))] [(.int (fRC (p1.toInt) (p2.toInt) (p3.toInt) (p4.toInt) (p5.toInt) (p6.toInt)))])) (fun _ k => XS.iload X3.here hx rfl (hb hby at_46) rfl k) ?_
      refine go (B := T3.setTop (mkF m 50 #[.val (.int p1), .val (.int p2), .val (.int p3), .val (.int p4), .val (.int p5), .val (.int p6), .val (.int (fRC (p1.toInt) (p2.toInt) (p3.toInt) (p4.toInt) (p5.toInt) (p6.toInt))), .val (.int (0 : Int32))] [(.int (0 : Int32)), (.int (fRC (p1.toInt) (p2.toInt) (p3.toInt) (p4.toInt) (p5.toInt) (p6.toInt)))])) (fun _ k => XS.iload X3.here hx rfl (hb hby at_48) rfl k) ?_
      by_cases hc50 : (fRC (p1.toInt) (p2.toInt) (p3.toInt) (p4.toInt) (p5.toInt) (p6.toInt)) = (0 : Int32)
      · refine go (B := T3.setTop (mkF m 53 #[.val (.int p1), .val (.int p2), .val (.int p3), .val (.int p4), .val (.int p5), .val (.int p6), .val (.int (fRC (p1.toInt) (p2.toInt) (p3.toInt) (p4.toInt) (p5.toInt) (p6.toInt))), .val (.int (0 : Int32))] [])) (fun _ k => XS.icmpNo X3.here hx rfl (hb hby at_50) rfl (teq hc50).2 k) ?_
        refine go (B := T3.setTop (mkF m 54 #[.val (.int p1), .val (.int p2), .val (.int p3), .val (.int p4), .val (.int p5), .val (.int p6), .val (.int (fRC (p1.toInt) (p2.toInt) (p3.toInt) (p4.toInt) (p5.toInt) (p6.toInt))), .val (.int (0 : Int32))] [(.int (1 : Int32))])) (fun _ k => XS.iconst X3.here hx rfl (hb hby at_53) k) ?_
        refine go (B := T3.setTop (mkF m 58 #[.val (.int p1), .val (.int p2), .val (.int p3), .val (.int p4), .val (.int p5), .val (.int p6), .val (.int (fRC (p1.toInt) (p2.toInt) (p3.toInt) (p4.toInt) (p5.toInt) (p6.toInt))), .val (.int (0 : Int32))] [(.int (1 : Int32))])) (fun _ k => XS.goto X3.here hx rfl (pc0 := 54) (pc' := 58) rfl (hb hby at_54) (by decide) (by decide) k) ?_
        refine goRetN X3 hx (t := .boolean) Bd.returns (by simp) hlk (hb hby at_58) ?_ (by decide) (by decide)
        rw [e3]
        exact ⟨rfl, N3⟩
      · refine go (B := T3.setTop (mkF m 57 #[.val (.int p1), .val (.int p2), .val (.int p3), .val (.int p4), .val (.int p5), .val (.int p6), .val (.int (fRC (p1.toInt) (p2.toInt) (p3.toInt) (p4.toInt) (p5.toInt) (p6.toInt))), .val (.int (0 : Int32))] [])) (fun _ k => XS.icmpYes X3.here hx rfl (pc0 := 50) (pc' := 57) rfl (hb hby at_50) rfl (feq hc50).2 (by decide) (by decide) k) ?_
        refine go (B := T3.setTop (mkF m 58 #[.val (.int p1), .val (.int p2), .val (.int p3), .val (.int p4), .val (.int p5), .val (.int p6), .val (.int (fRC (p1.toInt) (p2.toInt) (p3.toInt) (p4.toInt) (p5.toInt) (p6.toInt))), .val (.int (0 : Int32))] [(.int (0 : Int32))])) (fun _ k => XS.iconst X3.here hx rfl (hb hby at_57) k) ?_
        refine goRetN X3 hx (t := .boolean) Bd.returns (by simp) hlk (hb hby at_58) ?_ (by decide) (by decide)
        rw [e3]
        exfalso
        have q := fRC_int (p1.toInt) (p2.toInt) (p3.toInt) (p4.toInt) (p5.toInt) (p6.toInt)
        have v1 := fWi_int p1 p3 p5
        have v2 := fWi_int p2 p4 p6
        simp only [Int32.lt_iff_toInt_lt, Int64.lt_iff_toInt_lt, ← Int32.toInt_inj, ← Int64.toInt_inj, Int32.reduceToInt, Int64.reduceToInt] at  hc26 hc36 hc50
        omega
    · refine go (B := T3.setTop (mkF m 39 #[.val (.int p1), .val (.int p2), .val (.int p3), .val (.int p4), .val (.int p5), .val (.int p6), .val (.int (fRC (p1.toInt) (p2.toInt) (p3.toInt) (p4.toInt) (p5.toInt) (p6.toInt))), .unset] [])) (fun _ k => XS.ifNo X3.here hx rfl (hb hby at_36) rfl ((if0 _ _).trans (feq hc36).1) k) ?_
      refine go (B := T3.setTop (mkF m 40 #[.val (.int p1), .val (.int p2), .val (.int p3), .val (.int p4), .val (.int p5), .val (.int p6), .val (.int (fRC (p1.toInt) (p2.toInt) (p3.toInt) (p4.toInt) (p5.toInt) (p6.toInt))), .unset] [(.int (1 : Int32))])) (fun _ k => XS.iconst X3.here hx rfl (hb hby at_39) k) ?_
      refine go (B := T3.setTop (mkF m 44 #[.val (.int p1), .val (.int p2), .val (.int p3), .val (.int p4), .val (.int p5), .val (.int p6), .val (.int (fRC (p1.toInt) (p2.toInt) (p3.toInt) (p4.toInt) (p5.toInt) (p6.toInt))), .unset] [(.int (1 : Int32))])) (fun _ k => XS.goto X3.here hx rfl (pc0 := 40) (pc' := 44) rfl (hb hby at_40) (by decide) (by decide) k) ?_
      refine go (B := T3.setTop (mkF m 46 #[.val (.int p1), .val (.int p2), .val (.int p3), .val (.int p4), .val (.int p5), .val (.int p6), .val (.int (fRC (p1.toInt) (p2.toInt) (p3.toInt) (p4.toInt) (p5.toInt) (p6.toInt))), .val (.int (1 : Int32))] [])) (fun _ k => XS.istore X3.here hx rfl (hb hby at_44) rfl (l' := #[.val (.int p1), .val (.int p2), .val (.int p3), .val (.int p4), .val (.int p5), .val (.int p6), .val (.int (fRC (p1.toInt) (p2.toInt) (p3.toInt) (p4.toInt) (p5.toInt) (p6.toInt))), .val (.int (1 : Int32))]) rfl k) ?_
      refine go (B := T3.setTop (mkF m 48 #[.val (.int p1), .val (.int p2), .val (.int p3), .val (.int p4), .val (.int p5), .val (.int p6), .val (.int (fRC (p1.toInt) (p2.toInt) (p3.toInt) (p4.toInt) (p5.toInt) (p6.toInt))), .val (.int (1 : Int32))] [(.int (fRC (p1.toInt) (p2.toInt) (p3.toInt) (p4.toInt) (p5.toInt) (p6.toInt)))])) (fun _ k => XS.iload X3.here hx rfl (hb hby at_46) rfl k) ?_
      refine go (B := T3.setTop (mkF m 50 #[.val (.int p1), .val (.int p2), .val (.int p3), .val (.int p4), .val (.int p5), .val (.int p6), .val (.int (fRC (p1.toInt) (p2.toInt) (p3.toInt) (p4.toInt) (p5.toInt) (p6.toInt))), .val (.int (1 : Int32))] [(.int (1 : Int32)), (.int (fRC (p1.toInt) (p2.toInt) (p3.toInt) (p4.toInt) (p5.toInt) (p6.toInt)))])) (fun _ k => XS.iload X3.here hx rfl (hb hby at_48) rfl k) ?_
      by_cases hc50 : (fRC (p1.toInt) (p2.toInt) (p3.toInt) (p4.toInt) (p5.toInt) (p6.toInt)) = (1 : Int32)
      · refine go (B := T3.setTop (mkF m 53 #[.val (.int p1), .val (.int p2), .val (.int p3), .val (.int p4), .val (.int p5), .val (.int p6), .val (.int (fRC (p1.toInt) (p2.toInt) (p3.toInt) (p4.toInt) (p5.toInt) (p6.toInt))), .val (.int (1 : Int32))] [])) (fun _ k => XS.icmpNo X3.here hx rfl (hb hby at_50) rfl (teq hc50).2 k) ?_
        refine go (B := T3.setTop (mkF m 54 #[.val (.int p1), .val (.int p2), .val (.int p3), .val (.int p4), .val (.int p5), .val (.int p6), .val (.int (fRC (p1.toInt) (p2.toInt) (p3.toInt) (p4.toInt) (p5.toInt) (p6.toInt))), .val (.int (1 : Int32))] [(.int (1 : Int32))])) (fun _ k => XS.iconst X3.here hx rfl (hb hby at_53) k) ?_
        refine go (B := T3.setTop (mkF m 58 #[.val (.int p1), .val (.int p2), .val (.int p3), .val (.int p4), .val (.int p5), .val (.int p6), .val (.int (fRC (p1.toInt) (p2.toInt) (p3.toInt) (p4.toInt) (p5.toInt) (p6.toInt))), .val (.int (1 : Int32))] [(.int (1 : Int32))])) (fun _ k => XS.goto X3.here hx rfl (pc0 := 54) (pc' := 58) rfl (hb hby at_54) (by decide) (by decide) k) ?_
        refine goRetN X3 hx (t := .boolean) Bd.returns (by simp) hlk (hb hby at_58) ?_ (by decide) (by decide)
        rw [e3]
        exact ⟨rfl, N3⟩
      · refine go (B := T3.setTop (mkF m 57 #[.val (.int p1), .val (.int p2), .val (.int p3), .val (.int p4), .val (.int p5), .val (.int p6), .val (.int (fRC (p1.toInt) (p2.toInt) (p3.toInt) (p4.toInt) (p5.toInt) (p6.toInt))), .val (.int (1 : Int32))] [])) (fun _ k => XS.icmpYes X3.here hx rfl (pc0 := 50) (pc' := 57) rfl (hb hby at_50) rfl (feq hc50).2 (by decide) (by decide) k) ?_
        refine go (B := T3.setTop (mkF m 58 #[.val (.int p1), .val (.int p2), .val (.int p3), .val (.int p4), .val (.int p5), .val (.int p6), .val (.int (fRC (p1.toInt) (p2.toInt) (p3.toInt) (p4.toInt) (p5.toInt) (p6.toInt))), .val (.int (1 : Int32))] [(.int (0 : Int32))])) (fun _ k => XS.iconst X3.here hx rfl (hb hby at_57) k) ?_
        refine goRetN X3 hx (t := .boolean) Bd.returns (by simp) hlk (hb hby at_58) ?_ (by decide) (by decide)
        rw [e3]
        exfalso
        have q := fRC_int (p1.toInt) (p2.toInt) (p3.toInt) (p4.toInt) (p5.toInt) (p6.toInt)
        have v1 := fWi_int p1 p3 p5
        have v2 := fWi_int p2 p4 p6
        simp only [Int32.lt_iff_toInt_lt, Int64.lt_iff_toInt_lt, ← Int32.toInt_inj, ← Int64.toInt_inj, Int32.reduceToInt, Int64.reduceToInt] at  hc26 hc36 hc50
        omega
set_option maxRecDepth 65536 in
set_option maxHeartbeats 40000000 in
theorem comes_1 {Post : Tables → Env → Array Value → State → Outcome → State → Prop} (hpost : ∀ tb e args s v u, (limb_1_1.after args s (.returned v) u = true ∧ limb_1_2.after args s (.returned v) u = true ∧ True) → FrameEnd s (.returned v) u (Jvm.fieldLocs frame_1_writes args s ++ Jvm.arrayLocs frame_1_arrays args s ++ Jvm.staticLocs frame_1_statics s) 0 0 → Post tb e args s (.returned v) u) :
    ArmFor flags0 classFile x code maxLocals ret World_1 tables_1 room_1 Calls_1 rest_1 Pre_1 Post := by
  intro l hfl _ _ p e ha hc hk s m args below hf hA hF happ hP
  obtain ⟨hcalls, hrest, hpre⟩ := hP
  obtain ⟨-, -, -, hnamed, -, -, -, hat⟩ := (Spec.applies_iff hf).mp happ
  obtain ⟨hg, hn⟩ := and_e (Cond.before_iff.mp (show (Jvm.Cond.and given_1 narrow_1).before args s = true from hpre))
  obtain ⟨hcnt, gg0⟩ := and_e hg
  obtain ⟨ga0, gg1⟩ := and_e gg0
  obtain ⟨ga1, gg2⟩ := and_e gg1
  obtain ⟨ga2, gg3⟩ := and_e gg2
  obtain ⟨ga3, gg4⟩ := and_e gg3
  obtain ⟨ga4, gg5⟩ := and_e gg4
  obtain ⟨w0, w1, w2, w3, w4, w5, rfl⟩ : ∃ w0 w1 w2 w3 w4 w5 : Value, args = #[w0, w1, w2, w3, w4, w5] := by
    have hs : args.size = 6 := by simpa [Cond.value, given_1] using hcnt
    obtain ⟨L⟩ := args
    match L, hs with
    | [w0, w1, w2, w3, w4, w5], _ => exact ⟨w0, w1, w2, w3, w4, w5, rfl⟩
  have hw := fun d (hd : d ∈ tables_1) => atoms_spec (ws := Jvm.Cond.code x code maxLocals ret :: tables_1) hat d (List.mem_cons_of_mem _ hd)
  have hfit : Fit s := fun {y c} hc i hi => by
    obtain ⟨ha, rfl⟩ := Array.getElem?_eq_some_iff.mp hc
    have q := List.all_eq_true.mp ((Array.all_eq_true_iff_forall_mem.mp hF) _ (Array.getElem_mem ha)) i (List.mem_range.mpr hi)
    simpa [Array.getElem?_eq_getElem hi] using q
  obtain ⟨i0, ei0⟩ := is_v ga0
  obtain rfl : w0 = (.int i0) := Option.some.inj ei0
  obtain ⟨i1, ei1⟩ := is_v ga1
  obtain rfl : w1 = (.int i1) := Option.some.inj ei1
  obtain ⟨i2, ei2⟩ := is_v ga2
  obtain rfl : w2 = (.int i2) := Option.some.inj ei2
  obtain ⟨i3, ei3⟩ := is_v ga3
  obtain rfl : w3 = (.int i3) := Option.some.inj ei3
  obtain ⟨i4, ei4⟩ := is_v ga4
  obtain rfl : w4 = (.int i4) := Option.some.inj ei4
  obtain ⟨i5, ei5⟩ := is_v gg5
  obtain rfl : w5 = (.int i5) := Option.some.inj ei5
  obtain ⟨n, o, h1, h2, h3, _, L, rfl, ⟨rfl, N⟩, hq⟩ := rm0 l s _ hw tables_1 i0 i1 i2 i3 i4 i5 s.heap s.heap.size (Nat.le_refl _) p e ha hc hk s m _ below hf ((Spec.applies_iff_loose hf).mp happ).1 ⟨rfl, State.Warmed39.refl s, rfl⟩ trivial
  refine ⟨n, _, h1, h2, h3, hpost _ _ _ _ _ _ ⟨Cond.after_iff.mpr rfl, Cond.after_iff.mpr (eq_i res_at (Term.int_eval (1)) rfl), trivial⟩ ⟨hq.1, hq.2.1, (hq.2.2.sift fun y hy => Or.inr (N y hy)).mono (by decide) (by decide)⟩⟩
theorem main_1_1 : Claimed_1_1 := comes_1 fun _ _ _ _ _ _ h hF => ⟨h.1, hF⟩
theorem main_1_2 : Claimed_1_2 := comes_1 fun _ _ _ _ _ _ h hF => ⟨h.2.1, hF⟩
end Jvm.Pilot.@@N@@
namespace Jvm.Pilot.@@N@@
open Jvm Jvm.ClassFile Sem Op Lib Jvm.Free Jvm.Stand Jvm.Pilot.@@N@@.Jvm.D
/-! MADE BY PROGRAM (witnessworld.py) out of the Statement's table words and the real class files: 11 classes; the members and pool entries that the words name. The judged class is class 1, her method 1. -/
namespace start1
open Jvm.ClassFile
def u (s : String) : CpInfo := .utf8 (stringToUtf16 s)
/-- a pool by its gaps: so many unusable entries, then the entry; so many at the end -/
def gap : Nat → List CpInfo → List CpInfo
  | 0, r => r
  | n + 1, r => .unusable :: gap n r
def poolList (es : List (Nat × CpInfo)) (last : Nat) : List CpInfo := es.foldr (fun e r => gap e.1 (e.2 :: r)) (gap last [])
def pool (es : List (Nat × CpInfo)) (last : Nat) : Array CpInfo := ⟨poolList es last⟩
def fileOf (pool : Array CpInfo) (this : Nat) (attrs : Array Attribute := #[]) (ms : Array MethodInfo := #[]) (fl : Nat := 33) (sup : Nat := 0) (ifs : Array Nat := #[]) (fds : Array FieldInfo := #[]) : ClassFile where
  minorVersion := 0
  majorVersion := 65
  constantPool := pool
  accessFlags := fl
  thisClass := this
  superClass := sup
  interfaces := ifs
  fields := fds
  methods := ms
  attributes := attrs
def plain (name : String) (sup : Option ClassId) : Class where
  name := name
  kind := .ordinary
  loader := none
  accessFlags := 33
  super := sup
  interfaces := #[]
  cf := none
  fields := #[]
  methods := #[]
  instanceTypes := #[]
  staticTypes := #[]
  resolved := #[]
  callSites := []
  init := .initialized
  statics := none
  mirror := none

def pool0 : Array CpInfo := pool [(5, u "<init>"), (0, u "()V"), (1, .class_ 10), (1, u "java/lang/Object")] 113

def k0m0 : Method := { name := "<init>", desc := "()V", sig := { parameters := [], returnType := none }, accessFlags := 1, code := none }
/-- java/lang/Object -/
def k0 : Class := { plain "java/lang/Object" none with
  accessFlags := 33
  interfaces := #[]
  cf := some (fileOf pool0 8 #[] #[{ accessFlags := 1, nameIndex := 5, descriptorIndex := 6, attributes := #[] }] 33 0 #[] #[])
  fields := #[]
  methods := #[k0m0]
  instanceTypes := #[]
  staticTypes := #[]
  resolved := Array.replicate 124 none
  statics := none }

def pool1 : Array CpInfo := pool [(2, .class_ 4), (1, u "java/lang/Object"), (0, u "<init>"), (0, u "()V"), (0, .methodref 8 9), (0, .class_ 10), (0, .nameAndType 11 12), (0, u "com/example/eel_river/eelriver/space/Rectangle"), (0, u "contains"), (0, u "(DDDDDD)Z"), (0, .methodref 14 15), (0, .class_ 16), (0, .nameAndType 17 18), (0, u "com/example/eel_river/eelriver/space/RectangleContainsPinLaw"), (0, u "within"), (0, u "(III)Z"), (0, .methodref 20 21), (0, .class_ 22), (0, .nameAndType 23 24), (0, u "java/lang/Math"), (0, u "min"), (0, u "(II)I"), (0, .methodref 20 26), (0, .nameAndType 27 24), (0, u "max"), (2, u "law"), (0, u "(IIIIII)Z")] 3

def k1m0 : Method := { name := "<init>", desc := "()V", sig := { parameters := [], returnType := none }, accessFlags := 1, code := none }
def k1c1 : Code := { maxStack := 12, maxLocals := 8, code := code, exceptionTable := #[], attributes := #[] }
def k1m1 : Method := { name := "law", desc := "(IIIIII)Z", sig := { parameters := [.int, .int, .int, .int, .int, .int], returnType := some .boolean }, accessFlags := 9, code := some k1c1 }
def k1c2 : Code := { maxStack := 3, maxLocals := 3, code := method_3_code, exceptionTable := #[], attributes := #[] }
def k1m2 : Method := { name := "within", desc := "(III)Z", sig := { parameters := [.int, .int, .int], returnType := some .boolean }, accessFlags := 10, code := some k1c2 }
/-- com/example/eel_river/eelriver/space/RectangleContainsPinLaw -/
def k1 : Class := { plain "com/example/eel_river/eelriver/space/RectangleContainsPinLaw" (some 0) with
  accessFlags := 49
  interfaces := #[]
  cf := some (fileOf pool1 14 #[] #[{ accessFlags := 1, nameIndex := 5, descriptorIndex := 6, attributes := #[] }, { accessFlags := 9, nameIndex := 30, descriptorIndex := 31, attributes := #[] }, { accessFlags := 10, nameIndex := 17, descriptorIndex := 18, attributes := #[] }] 49 2 #[] #[])
  fields := #[]
  methods := #[k1m0, k1m1, k1m2]
  instanceTypes := #[]
  staticTypes := #[]
  resolved := Array.replicate 35 none
  statics := none }

def pool2 : Array CpInfo := pool [(2, .class_ 4), (1, u "java/lang/Object"), (0, u "<init>"), (0, u "()V"), (0, .class_ 8), (0, u "java/lang/Record")] 13

def k2m0 : Method := { name := "<init>", desc := "()V", sig := { parameters := [], returnType := none }, accessFlags := 4, code := none }
/-- java/lang/Record -/
def k2 : Class := { plain "java/lang/Record" (some 0) with
  accessFlags := 1057
  interfaces := #[]
  cf := some (fileOf pool2 7 #[] #[{ accessFlags := 4, nameIndex := 5, descriptorIndex := 6, attributes := #[] }] 1057 2 #[] #[])
  fields := #[]
  methods := #[k2m0]
  instanceTypes := #[]
  staticTypes := #[]
  resolved := Array.replicate 22 none
  statics := none }

def pool3 : Array CpInfo := pool [(2, .class_ 4), (1, u "java/lang/Record"), (26, .class_ 33), (1, u "com/example/eel_river/eelriver/space/Rectangle"), (0, u "minLon"), (0, u "D"), (2, u "minLat"), (2, u "maxLon"), (2, u "maxLat"), (40, u "contains"), (0, u "(DDDDDD)Z")] 37

def k3c0 : Code := { maxStack := 4, maxLocals := 12, code := prog_202_method_4_code, exceptionTable := #[], attributes := #[] }
def k3m0 : Method := { name := "contains", desc := "(DDDDDD)Z", sig := { parameters := [.double, .double, .double, .double, .double, .double], returnType := some .boolean }, accessFlags := 9, code := some k3c0 }
/-- com/example/eel_river/eelriver/space/Rectangle -/
def k3 : Class := { plain "com/example/eel_river/eelriver/space/Rectangle" (some 2) with
  accessFlags := 49
  interfaces := #[]
  cf := some (fileOf pool3 31 #[] #[{ accessFlags := 9, nameIndex := 85, descriptorIndex := 86, attributes := #[] }] 49 2 #[] #[{ accessFlags := 18, nameIndex := 34, descriptorIndex := 35, attributes := #[] }, { accessFlags := 18, nameIndex := 38, descriptorIndex := 35, attributes := #[] }, { accessFlags := 18, nameIndex := 41, descriptorIndex := 35, attributes := #[] }, { accessFlags := 18, nameIndex := 44, descriptorIndex := 35, attributes := #[] }])
  fields := #[{ name := "minLon", type := .double, accessFlags := 18, slot := 0, constantValue := 0 }, { name := "minLat", type := .double, accessFlags := 18, slot := 1, constantValue := 0 }, { name := "maxLon", type := .double, accessFlags := 18, slot := 2, constantValue := 0 }, { name := "maxLat", type := .double, accessFlags := 18, slot := 3, constantValue := 0 }]
  methods := #[k3m0]
  instanceTypes := #[.double, .double, .double, .double]
  staticTypes := #[]
  resolved := Array.replicate 124 none
  statics := none }

def pool4 : Array CpInfo := pool [(1, .class_ 2), (0, u "java/lang/Math"), (1, .class_ 6), (1, u "java/lang/Object"), (0, u "<init>"), (0, u "()V"), (89, .class_ 100), (1, u "java/lang/Math$RandomNumberGeneratorHolder"), (71, u "negativeZeroFloatBits"), (0, u "J"), (2, u "negativeZeroDoubleBits"), (21, u "max"), (2, u "min"), (43, u "$assertionsDisabled"), (0, u "Z"), (88, u "(II)I"), (2, u "twoToTheDoubleScaleDown"), (0, u "D"), (4, u "twoToTheDoubleScaleUp"), (9, u "E"), (3, u "PI"), (2, u "TAU"), (2, u "DEGREES_TO_RADIANS"), (0, u "RADIANS_TO_DEGREES")] 94

def k4m0 : Method := { name := "<init>", desc := "()V", sig := { parameters := [], returnType := none }, accessFlags := 2, code := none }
def k4c1 : Code := { maxStack := 2, maxLocals := 2, code := jdk_29_method_65_code, exceptionTable := #[], attributes := #[] }
def k4m1 : Method := { name := "max", desc := "(II)I", sig := { parameters := [.int, .int], returnType := some .int }, accessFlags := 9, code := some k4c1 }
def k4c2 : Code := { maxStack := 2, maxLocals := 2, code := jdk_29_method_69_code, exceptionTable := #[], attributes := #[] }
def k4m2 : Method := { name := "min", desc := "(II)I", sig := { parameters := [.int, .int], returnType := some .int }, accessFlags := 9, code := some k4c2 }
/-- java/lang/Math -/
def k4 : Class := { plain "java/lang/Math" (some 0) with
  accessFlags := 49
  interfaces := #[]
  cf := some (fileOf pool4 1 #[.nestMembers #[98]] #[{ accessFlags := 2, nameIndex := 7, descriptorIndex := 8, attributes := #[] }, { accessFlags := 9, nameIndex := 198, descriptorIndex := 335, attributes := #[] }, { accessFlags := 9, nameIndex := 201, descriptorIndex := 335, attributes := #[] }] 49 4 #[] #[{ accessFlags := 25, nameIndex := 354, descriptorIndex := 339, attributes := #[] }, { accessFlags := 25, nameIndex := 358, descriptorIndex := 339, attributes := #[] }, { accessFlags := 25, nameIndex := 361, descriptorIndex := 339, attributes := #[] }, { accessFlags := 26, nameIndex := 364, descriptorIndex := 339, attributes := #[] }, { accessFlags := 26, nameIndex := 365, descriptorIndex := 339, attributes := #[] }, { accessFlags := 26, nameIndex := 172, descriptorIndex := 173, attributes := #[] }, { accessFlags := 26, nameIndex := 176, descriptorIndex := 173, attributes := #[] }, { accessFlags := 8, nameIndex := 344, descriptorIndex := 339, attributes := #[] }, { accessFlags := 8, nameIndex := 338, descriptorIndex := 339, attributes := #[] }, { accessFlags := 4120, nameIndex := 245, descriptorIndex := 246, attributes := #[] }])
  fields := #[{ name := "E", type := .double, accessFlags := 25, slot := 0, constantValue := 0 }, { name := "PI", type := .double, accessFlags := 25, slot := 1, constantValue := 0 }, { name := "TAU", type := .double, accessFlags := 25, slot := 2, constantValue := 0 }, { name := "DEGREES_TO_RADIANS", type := .double, accessFlags := 26, slot := 3, constantValue := 0 }, { name := "RADIANS_TO_DEGREES", type := .double, accessFlags := 26, slot := 4, constantValue := 0 }, { name := "negativeZeroFloatBits", type := .long, accessFlags := 26, slot := 5, constantValue := 0 }, { name := "negativeZeroDoubleBits", type := .long, accessFlags := 26, slot := 6, constantValue := 0 }, { name := "twoToTheDoubleScaleUp", type := .double, accessFlags := 8, slot := 7, constantValue := 0 }, { name := "twoToTheDoubleScaleDown", type := .double, accessFlags := 8, slot := 8, constantValue := 0 }, { name := "$assertionsDisabled", type := .boolean, accessFlags := 4120, slot := 9, constantValue := 0 }]
  methods := #[k4m0, k4m1, k4m2]
  instanceTypes := #[]
  staticTypes := #[.double, .double, .double, .double, .double, .long, .long, .double, .double, .boolean]
  resolved := Array.replicate 460 none
  statics := none }

def pool5 : Array CpInfo := pool [(1, u "java/lang/Cloneable"), (0, .class_ 1), (0, u "java/lang/Object"), (0, .class_ 3)] 3

/-- java/lang/Cloneable -/
def k5 : Class := { plain "java/lang/Cloneable" (some 0) with
  accessFlags := 1537
  interfaces := #[]
  cf := some (fileOf pool5 2 #[] #[] 1537 4 #[] #[])
  fields := #[]
  methods := #[]
  instanceTypes := #[]
  staticTypes := #[]
  resolved := Array.replicate 8 none
  statics := none }

def pool6 : Array CpInfo := pool [(1, u "java/io/Serializable"), (0, .class_ 1), (0, u "java/lang/Object"), (0, .class_ 3)] 3

/-- java/io/Serializable -/
def k6 : Class := { plain "java/io/Serializable" (some 0) with
  accessFlags := 1537
  interfaces := #[]
  cf := some (fileOf pool6 2 #[] #[] 1537 4 #[] #[])
  fields := #[]
  methods := #[]
  instanceTypes := #[]
  staticTypes := #[]
  resolved := Array.replicate 8 none
  statics := none }

/-- the primitive byte -/
def k7 : Class := { plain "byte" none with kind := .primitive 'B', accessFlags := 0x411 }
/-- [B -/
def k8 : Class := { plain "[B" (some 0) with kind := .array 7 .byte, interfaces := #[5, 6], accessFlags := 1041 }

/-- the primitive int -/
def k9 : Class := { plain "int" none with kind := .primitive 'I', accessFlags := 0x411 }
/-- [I -/
def k10 : Class := { plain "[I" (some 0) with kind := .array 9 .int, interfaces := #[5, 6], accessFlags := 1041 }

def heap : Heap := #[]
def classes : Array Class := #[k0, k1, k2, k3, k4, k5, k6, k7, k8, k9, k10]
def interned : List (Array UInt16 × Addr) := []
def slotsUsed : Nat := 0
def theMethod : MethodId := ⟨1, 1⟩
def args0 : Array Value := #[.int 1, .int 2, .int 5, .int 6, .int 3, .int 4]
def aboutOver (below : List Frame) : State where
  vm := { classes := classes, interned := interned.toArray }
  heap := heap
  slotsUsed := slotsUsed
  threads := #[{ frames := .invoking theMethod args0 :: below }]
def below0 : List Frame := [.native { method := ⟨0, 0⟩, args := #[] }]
def about1 : State := aboutOver below0
def p0 : Program := .bare "" "" ""
def e0 : Env := launch0.env 0 0 0
theorem w_frames : about1.frames = Frame.invoking theMethod args0 :: below0 := rfl
set_option maxRecDepth 65536 in
theorem w_args : argsFit about1.vm theMethod args0 = true := by decide +kernel
set_option maxRecDepth 65536 in
theorem w_heap : heapFits about1 = true := by decide +kernel
set_option maxRecDepth 65536 in
theorem w_runnable : about1.curStatus? = some .runnable := by decide +kernel
set_option maxRecDepth 65536 in
theorem w_alone : about1.alone = true := by decide +kernel
set_option maxRecDepth 65536 in
theorem w_named : about1.methodNamed? x = some theMethod := by decide +kernel
set_option maxRecDepth 65536 in
theorem w_hears : about1.hears theMethod below0 = true := by decide +kernel
set_option maxRecDepth 65536 in
theorem w_ripe : about1.ripe theMethod args0 below0 = true := by decide +kernel
theorem w_running : about1.status = .running := rfl
set_option maxRecDepth 65536 in
theorem w_room : about1.hasRoom e0.platform room_1 = true :=
  launch0.hasRoom_least _ room_1 (by decide +kernel) (by decide +kernel) (by decide +kernel) (by decide +kernel) (by decide +kernel) (by decide +kernel)
theorem allAtoms_all (ts : List Jvm.Cond) (a : Array Jvm.Value) (st : Jvm.State) : (allAtoms ts).before a st = ts.all (fun c => c.before a st) := by
  induction ts with
  | nil => rfl
  | cons c t ih =>
    show (Jvm.Cond.and c (allAtoms t)).before a st = _
    rw [Jvm.Cond.before_and, ih, List.all_cons]
def words1 : List Jvm.Cond := Jvm.Cond.code x code maxLocals ret :: tables_1
/-- a 'code' word, met by the world's own term for the bytes: nothing is compared byte by byte -/
theorem code_word {y : MethodName} {bytes : ByteArray} {mx : Nat} {rt : Option FieldType} {a : Array Value} {s : State} {m : MethodId} {meth : Method} {c : Code} (h1 : s.methodNamed? y = some m) (h2 : s.vm.method? m = some meth) (h3 : meth.code = some c) (h4 : c.code = bytes)
    (h5 : (c.maxLocals == mx && c.exceptionTable.isEmpty && decide (c.maxStack ≤ mostOperands) && decide (meth.sig.returnType = rt) && !meth.locks && decide (parseMethodDescriptor y.desc = some meth.sig)) = true) : (Jvm.Cond.code y bytes mx rt).before a s = true := by
  simp only [Bool.and_eq_true, beq_iff_eq, Bool.not_eq_true', decide_eq_true_eq] at h5
  obtain ⟨⟨⟨⟨⟨g1, g2⟩, g3⟩, g4⟩, g5⟩, g6⟩ := h5
  simp [Cond.before, Cond.holds, Cond.value, h1, h2, h3, h4, g1, g2, g3, g4, g5, g6]
def isCode : Jvm.Cond → Bool
  | .code _ _ _ _ => true
  | _ => false
theorem all_split {L : List Jvm.Cond} {P : Jvm.Cond → Bool} (h1 : L.all (fun c => isCode c || P c) = true) (h2 : ∀ c ∈ L.filter isCode, P c = true) : L.all P = true := by
  refine List.all_eq_true.mpr fun c hc => ?_
  have h := List.all_eq_true.mp h1 c hc
  rcases Bool.eq_false_or_eq_true (isCode c) with hi | hi
  · exact h2 c (List.mem_filter.mpr ⟨hc, hi⟩)
  · simpa [hi] using h
set_option maxRecDepth 65536 in
theorem w_c0 : (Jvm.Cond.code x code maxLocals ret).before args0 about1 = true := code_word (m := ⟨1, 1⟩) (meth := k1m1) (c := k1c1) (by decide +kernel) rfl rfl rfl (by decide +kernel)
set_option maxRecDepth 65536 in
theorem w_c1 : (Jvm.Cond.code ({ cls := "com/example/eel_river/eelriver/space/Rectangle", name := "contains", desc := "(DDDDDD)Z" } : Jvm.MethodName) prog_202_method_4_code (12 : Nat) (Option.some Jvm.ClassFile.FieldType.boolean)).before args0 about1 = true := code_word (m := ⟨3, 0⟩) (meth := k3m0) (c := k3c0) (by decide +kernel) rfl rfl rfl (by decide +kernel)
set_option maxRecDepth 65536 in
theorem w_c2 : (Jvm.Cond.code ({ cls := "com/example/eel_river/eelriver/space/RectangleContainsPinLaw", name := "within", desc := "(III)Z" } : Jvm.MethodName) method_3_code (3 : Nat) (Option.some Jvm.ClassFile.FieldType.boolean)).before args0 about1 = true := code_word (m := ⟨1, 2⟩) (meth := k1m2) (c := k1c2) (by decide +kernel) rfl rfl rfl (by decide +kernel)
set_option maxRecDepth 65536 in
theorem w_c3 : (Jvm.Cond.code ({ cls := "java/lang/Math", name := "min", desc := "(II)I" } : Jvm.MethodName) jdk_29_method_69_code (2 : Nat) (Option.some Jvm.ClassFile.FieldType.int)).before args0 about1 = true := code_word (m := ⟨4, 2⟩) (meth := k4m2) (c := k4c2) (by decide +kernel) rfl rfl rfl (by decide +kernel)
set_option maxRecDepth 65536 in
theorem w_c4 : (Jvm.Cond.code ({ cls := "java/lang/Math", name := "max", desc := "(II)I" } : Jvm.MethodName) jdk_29_method_65_code (2 : Nat) (Option.some Jvm.ClassFile.FieldType.int)).before args0 about1 = true := code_word (m := ⟨4, 1⟩) (meth := k4m1) (c := k4c1) (by decide +kernel) rfl rfl rfl (by decide +kernel)
def codes1 : List Jvm.Cond := [Jvm.Cond.code x code maxLocals ret, Jvm.Cond.code ({ cls := "com/example/eel_river/eelriver/space/Rectangle", name := "contains", desc := "(DDDDDD)Z" } : Jvm.MethodName) prog_202_method_4_code (12 : Nat) (Option.some Jvm.ClassFile.FieldType.boolean), Jvm.Cond.code ({ cls := "com/example/eel_river/eelriver/space/RectangleContainsPinLaw", name := "within", desc := "(III)Z" } : Jvm.MethodName) method_3_code (3 : Nat) (Option.some Jvm.ClassFile.FieldType.boolean), Jvm.Cond.code ({ cls := "java/lang/Math", name := "min", desc := "(II)I" } : Jvm.MethodName) jdk_29_method_69_code (2 : Nat) (Option.some Jvm.ClassFile.FieldType.int), Jvm.Cond.code ({ cls := "java/lang/Math", name := "max", desc := "(II)I" } : Jvm.MethodName) jdk_29_method_65_code (2 : Nat) (Option.some Jvm.ClassFile.FieldType.int)]
set_option maxRecDepth 65536 in
theorem codes_eq : words1.filter isCode = codes1 := rfl
theorem w_codes : ∀ c ∈ words1.filter isCode, c.before args0 about1 = true := by
  rw [codes_eq]
  intro c hc
  simp only [codes1, List.mem_cons, List.not_mem_nil, or_false] at hc
  rcases hc with rfl | rfl | rfl | rfl | rfl
  · exact w_c0
  · exact w_c1
  · exact w_c2
  · exact w_c3
  · exact w_c4
set_option maxRecDepth 65536 in
theorem w_t1 : words1.all (fun c => isCode c || c.before args0 about1) = true := by decide +kernel
theorem w_tables : (allAtoms (Jvm.Cond.code x code maxLocals ret :: tables_1)).before args0 about1 = true := by
  rw [allAtoms_all]
  show words1.all (fun c => c.before args0 about1) = true
  refine all_split ?_ w_codes
  rw [w_t1]
set_option maxRecDepth 65536 in
theorem w_case : (Jvm.Cond.and given_1 narrow_1).before args0 about1 = true := by decide +kernel
theorem w_applies : (headSpec (Jvm.Cond.code x code maxLocals ret :: tables_1) room_1).applies x e0.platform about1 = true :=
  (Spec.applies_iff w_frames).mpr ⟨w_running, w_runnable, w_alone, w_named, w_hears, w_ripe, w_room, w_tables⟩
theorem atStart : AtStart classFile x code maxLocals ret World_1 tables_1 room_1 Calls_1 rest_1 Pre_1 launch0 p0 e0 about1 theMethod args0 below0 :=
  ⟨lists_1, trivial, launch0.admits_env _ _ _, launch0.least_env, fairChoices_fair.cas, fairChoices_fair.clock, w_frames, w_args, w_heap, w_applies, trivial, trivial, w_case⟩
end start1
theorem witness_1 : WitnessClaimed_1 := ⟨start1.p0, start1.e0, start1.about1, start1.theMethod, start1.args0, start1.below0, start1.atStart⟩
end Jvm.Pilot.@@N@@
