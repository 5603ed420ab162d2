import JvmDerived
import JvmDerived.Pilot.@@N@@Statement
import JvmDerived.Pilot.@@N@@Code
set_option linter.unusedVariables false
set_option linter.unusedSimpArgs false
@@BLOCK:NumsL.lean.txt@@
namespace Jvm.Pilot.@@N@@
open Jvm Jvm.ClassFile Sem Op Lib Jvm.Free Jvm.Stand Jvm.LawKit Jvm.RoadKit Bundle Jvm.Pilot.@@N@@.Jvm.D
/-- from the state A the run comes to a return of which Q holds -/
def Go (tb : Tables) (e : Env) (below : List Frame) (s : State) (C S : Nat) (Q : Option Value → Heap → List Loc → Prop) (A : State) : Prop :=
  ∃ s₂ o, Steps tb e below A s₂ ∧ s₂.status = .running ∧ Ended s₂ below o ∧ ∃ v L, o = .returned v ∧ Q v s₂.heap L ∧ FrameEnd s o s₂ L C S
theorem go {tb : Tables} {e : Env} {below : List Frame} {s A B : State} {C S : Nat} {Q : Option Value → Heap → List Loc → Prop} (st : ∀ t, Steps tb e below B t → Steps tb e below A t) (h : Go tb e below s C S Q B) : Go tb e below s C S Q A := by
  obtain ⟨s₂, o, h1, h2⟩ := h
  exact ⟨s₂, o, st _ h1, h2⟩
section Rets
variable {p : Program} {l : Launch} {e : Env} {R : Room} {s : State} {m : MethodId} {args : Array Value} {below : List Frame} {meth : Method} {c : Code} {T : State} {locs : List Loc} {cells slots : Nat} {C S : Nat} {Q : Option Value → Heap → List Loc → Prop} {pc : Nat} {Ls : Array Slot} {rest : List Value}
theorem goRetI (X : Stand p l e R s m args below meth c T locs cells slots) (hx : p.tables.exec = Jvm.exec) {z : Int32} (hret : meth.sig.returnType = some .int) (hlk : meth.locks = false) (hd : decode c.code pc = .ok (.ireturn, 1)) (hQ : Q (some (.int z)) T.heap locs) (hc : cells ≤ C) (hs : slots ≤ S) : Go p.tables e below s C S Q (T.setTop (mkF m pc Ls (.int z :: rest))) := by
  obtain ⟨fs, hr, hrun, hended, hW, hsame⟩ := X.leave (v := some (.int z)) (fun h => by rw [hret] at h; cases h) hlk
  exact ⟨_, _, retOut X hx hret rfl (Or.inl ⟨rfl, Or.inl rfl, z, rfl⟩) hd hr, hrun, hended, _, _, rfl, hQ, ⟨_, rfl⟩, hW, hsame.mono hc hs⟩
theorem goRetN (X : Stand p l e R s m args below meth c T locs cells slots) (hx : p.tables.exec = Jvm.exec) {z : Int32} {t : FieldType} (hret : meth.sig.returnType = some t) (ht : t = .boolean ∨ t = .byte ∨ t = .char ∨ t = .short) (hlk : meth.locks = false) (hd : decode c.code pc = .ok (.ireturn, 1)) (hQ : Q (some (.int (nar t z))) T.heap locs) (hc : cells ≤ C) (hs : slots ≤ S) : Go p.tables e below s C S Q (T.setTop (mkF m pc Ls (.int z :: rest))) := by
  obtain ⟨fs, hr, hrun, hended, hW, hsame⟩ := X.leave (v := some (.int (nar t z))) (fun h => by rw [hret] at h; cases h) hlk
  exact ⟨_, _, retN X hx hret ht hd hr, hrun, hended, _, _, rfl, hQ, ⟨_, rfl⟩, hW, hsame.mono hc hs⟩
theorem goRetL (X : Stand p l e R s m args below meth c T locs cells slots) (hx : p.tables.exec = Jvm.exec) {z : Int64} (hret : meth.sig.returnType = some .long) (hlk : meth.locks = false) (hd : decode c.code pc = .ok (.lreturn, 1)) (hQ : Q (some (.long z)) T.heap locs) (hc : cells ≤ C) (hs : slots ≤ S) : Go p.tables e below s C S Q (T.setTop (mkF m pc Ls (.long z :: rest))) := by
  obtain ⟨fs, hr, hrun, hended, hW, hsame⟩ := X.leave (v := some (.long z)) (fun h => by rw [hret] at h; cases h) hlk
  exact ⟨_, _, retOut X hx hret rfl (Or.inr (Or.inl ⟨rfl, rfl, z, rfl⟩)) hd hr, hrun, hended, _, _, rfl, hQ, ⟨_, rfl⟩, hW, hsame.mono hc hs⟩
theorem goRetR (X : Stand p l e R s m args below meth c T locs cells slots) (hx : p.tables.exec = Jvm.exec) {a : Addr} {t : FieldType} (hret : meth.sig.returnType = some t) (ht : t.isReference = true) (hlk : meth.locks = false) (hd : decode c.code pc = .ok (.areturn, 1)) (hQ : Q (some (.ref a)) T.heap locs) (hc : cells ≤ C) (hs : slots ≤ S) : Go p.tables e below s C S Q (T.setTop (mkF m pc Ls (.ref a :: rest))) := by
  obtain ⟨fs, hr, hrun, hended, hW, hsame⟩ := X.leave (v := some (.ref a)) (fun h => by rw [hret] at h; cases h) hlk
  exact ⟨_, _, retOut X hx hret (by cases t <;> first | rfl | cases ht) (Or.inr (Or.inr (Or.inr (Or.inr ⟨rfl, ht, rfl⟩)))) hd hr, hrun, hended, _, _, rfl, hQ, ⟨_, rfl⟩, hW, hsame.mono hc hs⟩
theorem goRetV (X : Stand p l e R s m args below meth c T locs cells slots) (hx : p.tables.exec = Jvm.exec) (hret : meth.sig.returnType = none) (hlk : meth.locks = false) (hd : decode c.code pc = .ok (.return_, 1)) (hQ : Q none T.heap locs) (hc : cells ≤ C) (hs : slots ≤ S) : Go p.tables e below s C S Q (T.setTop (mkF m pc Ls [])) := by
  obtain ⟨fs, hr, hrun, hended, hW, hsame⟩ := X.leave (v := none) (fun _ => rfl) hlk
  exact ⟨_, _, X.returnOut hx hret hd hr, hrun, hended, _, _, rfl, hQ, ⟨_, rfl⟩, hW, hsame.mono hc hs⟩
end Rets
theorem lc_lt_yes {x y : Int64} (h : x < y) : ifCond.holds .lt (lcmpW x y) = true := by
  have h1 : ¬ y < x := by rw [Int64.lt_iff_toInt_lt] at h ⊢; omega
  have h2 : ¬ x = y := fun q => by subst q; rw [Int64.lt_iff_toInt_lt] at h; omega
  simp [lcmpW, h1, h2]; decide
theorem lc_lt_no {x y : Int64} (h : ¬ x < y) : ifCond.holds .lt (lcmpW x y) = false := by
  by_cases h1 : y < x
  · simp [lcmpW, h1]; decide
  · have h2 : x = y := by rw [← Int64.toInt_inj]; rw [Int64.lt_iff_toInt_lt] at h h1; omega
    simp [lcmpW, h1, h2]; decide
theorem lc_ge_no {x y : Int64} (h : x < y) : ifCond.holds .ge (lcmpW x y) = false := by
  have h1 : ¬ y < x := by rw [Int64.lt_iff_toInt_lt] at h ⊢; omega
  have h2 : ¬ x = y := fun q => by subst q; rw [Int64.lt_iff_toInt_lt] at h; omega
  simp [lcmpW, h1, h2]; decide
theorem lc_ge_yes {x y : Int64} (h : ¬ x < y) : ifCond.holds .ge (lcmpW x y) = true := by
  by_cases h1 : y < x
  · simp [lcmpW, h1]; decide
  · have h2 : x = y := by rw [← Int64.toInt_inj]; rw [Int64.lt_iff_toInt_lt] at h h1; omega
    simp [lcmpW, h1, h2]; decide
theorem lc_gt_yes {x y : Int64} (h : y < x) : ifCond.holds .gt (lcmpW x y) = true := by
  simp [lcmpW, h]; decide
theorem lc_gt_no {x y : Int64} (h : ¬ y < x) : ifCond.holds .gt (lcmpW x y) = false := by
  by_cases h2 : x = y <;> simp [lcmpW, h, h2] <;> decide
theorem lc_le_no {x y : Int64} (h : y < x) : ifCond.holds .le (lcmpW x y) = false := by
  simp [lcmpW, h]; decide
theorem lc_le_yes {x y : Int64} (h : ¬ y < x) : ifCond.holds .le (lcmpW x y) = true := by
  by_cases h2 : x = y <;> simp [lcmpW, h, h2] <;> decide
theorem lc_eq_yes {x y : Int64} (h : x = y) : ifCond.holds .eq (lcmpW x y) = true := by
  subst h; simp [lcmpW]; decide
theorem lc_eq_no {x y : Int64} (h : ¬ x = y) : ifCond.holds .eq (lcmpW x y) = false := by
  by_cases h1 : y < x <;> simp [lcmpW, h, h1] <;> decide
theorem lc_ne_no {x y : Int64} (h : x = y) : ifCond.holds .ne (lcmpW x y) = false := by
  subst h; simp [lcmpW]; decide
theorem lc_ne_yes {x y : Int64} (h : ¬ x = y) : ifCond.holds .ne (lcmpW x y) = true := by
  by_cases h1 : y < x <;> simp [lcmpW, h, h1] <;> decide
def fMax (a b : Int32) : Int32 := if a < b then b else a
theorem fMax_int (a b : Int32) : ((fMax a b).toInt = b.toInt ∧ a.toInt < b.toInt) ∨ ((fMax a b).toInt = a.toInt ∧ ¬ a.toInt < b.toInt) := by
  unfold fMax
  by_cases h : a < b
  · rw [if_pos h]; exact Or.inl ⟨rfl, Int32.lt_iff_toInt_lt.mp h⟩
  · rw [if_neg h]; exact Or.inr ⟨rfl, fun q => h (Int32.lt_iff_toInt_lt.mpr q)⟩
theorem m_pos (x : Int32) : 1 ≤ (fMax (1 : Int32) (x &&& (2147483647 : Int32))).toInt := by
  have q := fMax_int (1 : Int32) (x &&& (2147483647 : Int32))
  have c1 : (1 : Int32).toInt = 1 := by decide
  omega
theorem d_in (y m : Int32) (hm : 1 ≤ m.toInt) : 1 ≤ ((1 : Int32) + ((y &&& (2147483647 : Int32)) % m)).toInt ∧ ((1 : Int32) + ((y &&& (2147483647 : Int32)) % m)).toInt ≤ m.toInt := by
  have e1 : (y &&& (2147483647 : Int32)).toInt = y.toInt % 2 ^ 31 := Jvm.Kit.i32_mask _ _ (k := 31) (by decide) (by decide)
  have e2 : ((y &&& (2147483647 : Int32)) % m).toInt = (y &&& (2147483647 : Int32)).toInt % m.toInt := Jvm.Kit.i32_rem_nonneg (by omega)
  have b1 := Int.emod_nonneg (y &&& (2147483647 : Int32)).toInt (show m.toInt ≠ 0 by omega)
  have b2 := Int.emod_lt_of_pos (y &&& (2147483647 : Int32)).toInt (show 0 < m.toInt by omega)
  have b3 := m.toInt_lt
  have c1 : (1 : Int32).toInt = 1 := by decide
  have e3 : ((1 : Int32) + ((y &&& (2147483647 : Int32)) % m)).toInt = 1 + (y &&& (2147483647 : Int32)).toInt % m.toInt := by rw [Jvm.Kit.i32_add] <;> rw [e2, c1] <;> omega
  omega
theorem ef_rm1 (m : MethodId) (p1 : Int32) (p2 : Int32) : entryFrame m #[(.int p1), (.int p2)] 2 = mkF m 0 #[.val (.int p1), .val (.int p2)] [] := by first | (simp [entryFrame, mkF, argsToLocals, Value.category]; done) | rfl
def Q1 (Z : State) (p1 : Int32) (p2 : Int32) (h0 : Heap) (n0 : Nat) (v : Option Value) (h : Heap) (L : List Loc) : Prop := v = some (.int (fMax p1 p2)) ∧ Fr n0 L ∧ h = h0
theorem d1_0 : decode jdk_29_method_65_code 0 = .ok (.iload_n 0, 1) := by decide +kernel
theorem d1_1 : decode jdk_29_method_65_code 1 = .ok (.iload_n 1, 1) := by decide +kernel
theorem d1_2 : decode jdk_29_method_65_code 2 = .ok (.if_icmp .lt 7, 3) := by decide +kernel
theorem d1_9 : decode jdk_29_method_65_code 9 = .ok (.iload_n 1, 1) := by decide +kernel
theorem d1_10 : decode jdk_29_method_65_code 10 = .ok (.ireturn, 1) := by decide +kernel
theorem d1_5 : decode jdk_29_method_65_code 5 = .ok (.iload_n 0, 1) := by decide +kernel
theorem d1_6 : decode jdk_29_method_65_code 6 = .ok (.goto 4, 3) := by decide +kernel
set_option maxRecDepth 65536 in
set_option maxHeartbeats 40000000 in
theorem rm1 (l : Launch) (Z : State) (a0 : Array Value) (hw : ∀ d ∈ tables_1, d.before a0 Z = true) (ws : List Jvm.Cond) (p1 : Int32) (p2 : Int32) (h0 : Heap) (n0 : Nat) (Z0 : n0 ≤ h0.size) :
    MetFree l (⟨"java/lang/Math", "max", "(II)I"⟩ : MethodName) (head1 (Jvm.Cond.code (⟨"java/lang/Math", "max", "(II)I"⟩ : MethodName) jdk_29_method_65_code 2 (some .int) :: ws) ({ frames := 0, cells := 0, slots := 0, locals := 0 } : Room)) (fun a U => a = #[(.int p1), (.int p2)] ∧ Z.Warmed39 U.vm ∧ U.heap = h0) (fun _ _ _ _ _ => True) (fun _ U o U' => ∃ v L, o = .returned v ∧ Q1 Z p1 p2 h0 n0 v U'.heap L ∧ FrameEnd U o U' L ({ frames := 0, cells := 0, slots := 0, locals := 0 } : Room).cells ({ frames := 0, cells := 0, slots := 0, locals := 0 } : Room).slots) := by
  refine MetFree.of_bodySF (Jvm.Free.JP.mathPlain rfl (by decide +kernel)) hisR ?_
  intro p e s m args below meth c s₁ Bd hml0 hP hK
  obtain ⟨rfl, hZ, hh⟩ := hP
  have hx := Bd.exec
  have hby := Bd.bytes
  have hml : c.maxLocals = 2 := hml0
  have hown : s.vm.findClass "java/lang/Math" = some m.cls := findClass_of_methodNamed Bd.named
  have hnm := (name_of_methodNamed Bd.named Bd.method).1
  have hlk := Bd.notSynchronized
  have X0 : Stand p l e ({ frames := 0, cells := 0, slots := 0, locals := 0 } : Room) s m #[(.int p1), (.int p2)] below meth c s₁ [] 0 0 := Stand.of_body Bd
  have e0 : s₁.heap = h0 := by rw [← hh, Bd.state]; rfl
  have N0 := Fr.nil n0
  show Go p.tables e below s ({ frames := 0, cells := 0, slots := 0, locals := 0 } : Room).cells ({ frames := 0, cells := 0, slots := 0, locals := 0 } : Room).slots (Q1 Z p1 p2 h0 n0) _
  refine go (fun t k => castTop (ef_rm1 m p1 p2) k) ?_
  refine go (B := s₁.setTop (mkF m 1 #[.val (.int p1), .val (.int p2)] [(.int p1)])) (fun _ k => XS.iloadN X0.here hx rfl (hb hby d1_0) rfl k) ?_
  refine go (B := s₁.setTop (mkF m 2 #[.val (.int p1), .val (.int p2)] [(.int p2), (.int p1)])) (fun _ k => XS.iloadN X0.here hx rfl (hb hby d1_1) rfl k) ?_
  by_cases hc2 : p1 < p2
  · refine go (B := s₁.setTop (mkF m 9 #[.val (.int p1), .val (.int p2)] [])) (fun _ k => XS.icmpYes X0.here hx rfl (pc0 := 2) (pc' := 9) rfl (hb hby d1_2) rfl (tlt hc2).1 (by decide) (by decide) k) ?_
    refine go (B := s₁.setTop (mkF m 10 #[.val (.int p1), .val (.int p2)] [(.int p2)])) (fun _ k => XS.iloadN X0.here hx rfl (hb hby d1_9) rfl k) ?_
    refine goRetI X0 hx Bd.returns hlk (hb hby d1_10) ?_ (by decide) (by decide)
    rw [e0]
    exact ⟨by rw [fMax, if_pos hc2], N0, rfl⟩
  · refine go (B := s₁.setTop (mkF m 5 #[.val (.int p1), .val (.int p2)] [])) (fun _ k => XS.icmpNo X0.here hx rfl (hb hby d1_2) rfl (flt hc2).1 k) ?_
    refine go (B := s₁.setTop (mkF m 6 #[.val (.int p1), .val (.int p2)] [(.int p1)])) (fun _ k => XS.iloadN X0.here hx rfl (hb hby d1_5) rfl k) ?_
    refine go (B := s₁.setTop (mkF m 10 #[.val (.int p1), .val (.int p2)] [(.int p1)])) (fun _ k => XS.goto X0.here hx rfl (pc0 := 6) (pc' := 10) rfl (hb hby d1_6) (by decide) (by decide) k) ?_
    refine goRetI X0 hx Bd.returns hlk (hb hby d1_10) ?_ (by decide) (by decide)
    rw [e0]
    exact ⟨by rw [fMax, if_neg hc2], N0, rfl⟩
theorem pn_com_example_predicant_predicant_PaginationLimits : plainName "com/example/predicant/predicant/PaginationLimits" = true := by first | (simp [plainName, overriddenIn]; done) | decide +kernel
theorem ef_rm3 (m : MethodId) (a1 : Addr) (p2 : Int32) (p3 : Int32) (p4 : Int32) : entryFrame m #[(.ref a1), (.int p2), (.int p3), (.int p4)] 4 = mkF m 0 #[.val (.ref a1), .val (.int p2), .val (.int p3), .val (.int p4)] [] := by first | (simp [entryFrame, mkF, argsToLocals, Value.category]; done) | rfl
def Q3 (Z : State) (a1 : Addr) (p2 : Int32) (p3 : Int32) (p4 : Int32) (u0 : Value) (u1 : Value) (u2 : Value) (h0 : Heap) (n0 : Nat) (v : Option Value) (h : Heap) (L : List Loc) : Prop := v = none ∧ Fr n0 L ∧ n0 ≤ h.size ∧ Exa Z h a1 "com/example/predicant/predicant/PaginationLimits" ∧ Fld Z h a1 "com/example/predicant/predicant/PaginationLimits" "mDefaultSize" "I" (.int p2) ∧ Fld Z h a1 "com/example/predicant/predicant/PaginationLimits" "mMaxSize" "I" (.int p3) ∧ Fld Z h a1 "com/example/predicant/predicant/PaginationLimits" "mMaxLength" "I" (.int p4)
theorem d3_0 : decode prog_33_method_1_code 0 = .ok (.aload_n 0, 1) := by decide +kernel
theorem d3_1 : decode prog_33_method_1_code 1 = .ok (.invokespecial 1, 3) := by decide +kernel
theorem d3_4 : decode prog_33_method_1_code 4 = .ok (.iload_n 2, 1) := by decide +kernel
theorem d3_5 : decode prog_33_method_1_code 5 = .ok (.iconst 1, 1) := by decide +kernel
theorem d3_6 : decode prog_33_method_1_code 6 = .ok (.if_icmp .ge 17, 3) := by decide +kernel
theorem d3_23 : decode prog_33_method_1_code 23 = .ok (.iload_n 1, 1) := by decide +kernel
theorem d3_24 : decode prog_33_method_1_code 24 = .ok (.iconst 1, 1) := by decide +kernel
theorem d3_25 : decode prog_33_method_1_code 25 = .ok (.if_icmp .lt 8, 3) := by decide +kernel
theorem d3_28 : decode prog_33_method_1_code 28 = .ok (.iload_n 1, 1) := by decide +kernel
theorem d3_29 : decode prog_33_method_1_code 29 = .ok (.iload_n 2, 1) := by decide +kernel
theorem d3_30 : decode prog_33_method_1_code 30 = .ok (.if_icmp .le 18, 3) := by decide +kernel
theorem d3_48 : decode prog_33_method_1_code 48 = .ok (.iload_n 3, 1) := by decide +kernel
theorem d3_49 : decode prog_33_method_1_code 49 = .ok (.ifCond .ge 17, 3) := by decide +kernel
theorem d3_66 : decode prog_33_method_1_code 66 = .ok (.aload_n 0, 1) := by decide +kernel
theorem d3_67 : decode prog_33_method_1_code 67 = .ok (.iload_n 1, 1) := by decide +kernel
theorem d3_68 : decode prog_33_method_1_code 68 = .ok (.putfield 20, 3) := by decide +kernel
theorem d3_71 : decode prog_33_method_1_code 71 = .ok (.aload_n 0, 1) := by decide +kernel
theorem d3_72 : decode prog_33_method_1_code 72 = .ok (.iload_n 2, 1) := by decide +kernel
theorem d3_73 : decode prog_33_method_1_code 73 = .ok (.putfield 26, 3) := by decide +kernel
theorem d3_76 : decode prog_33_method_1_code 76 = .ok (.aload_n 0, 1) := by decide +kernel
theorem d3_77 : decode prog_33_method_1_code 77 = .ok (.iload_n 3, 1) := by decide +kernel
theorem d3_78 : decode prog_33_method_1_code 78 = .ok (.putfield 29, 3) := by decide +kernel
theorem d3_81 : decode prog_33_method_1_code 81 = .ok (.return_, 1) := by decide +kernel
set_option maxRecDepth 65536 in
set_option maxHeartbeats 40000000 in
theorem rm3 (l : Launch) (Z : State) (a0 : Array Value) (hw : ∀ d ∈ tables_1, d.before a0 Z = true) (ws : List Jvm.Cond) (a1 : Addr) (p2 : Int32) (p3 : Int32) (p4 : Int32) (u0 : Value) (u1 : Value) (u2 : Value) (h0 : Heap) (n0 : Nat) (Z0 : n0 ≤ h0.size) (E_a1 : Exa Z h0 a1 "com/example/predicant/predicant/PaginationLimits") (F_mDefaultSize : Fld Z h0 a1 "com/example/predicant/predicant/PaginationLimits" "mDefaultSize" "I" u0) (F_mMaxSize : Fld Z h0 a1 "com/example/predicant/predicant/PaginationLimits" "mMaxSize" "I" u1) (F_mMaxLength : Fld Z h0 a1 "com/example/predicant/predicant/PaginationLimits" "mMaxLength" "I" u2) (g_a1 : n0 ≤ a1) (pb1 : 1 ≤ p3.toInt) (pb2 : 1 ≤ p2.toInt) (pb3 : p2.toInt ≤ p3.toInt) (pb4 : 0 ≤ p4.toInt) :
    MetFree l (⟨"com/example/predicant/predicant/PaginationLimits", "<init>", "(III)V"⟩ : MethodName) (head1 (Jvm.Cond.code (⟨"com/example/predicant/predicant/PaginationLimits", "<init>", "(III)V"⟩ : MethodName) prog_33_method_1_code 4 none :: ws) ({ frames := 1, cells := 0, slots := 0, locals := 12 } : Room)) (fun a U => a = #[(.ref a1), (.int p2), (.int p3), (.int p4)] ∧ Z.Warmed39 U.vm ∧ U.heap = h0) (fun _ _ _ _ _ => True) (fun _ U o U' => ∃ v L, o = .returned v ∧ Q3 Z a1 p2 p3 p4 u0 u1 u2 h0 n0 v U'.heap L ∧ FrameEnd U o U' L ({ frames := 1, cells := 0, slots := 0, locals := 12 } : Room).cells ({ frames := 1, cells := 0, slots := 0, locals := 12 } : Room).slots) := by
  refine MetFree.of_bodySF (plainFor_of_name pn_com_example_predicant_predicant_PaginationLimits) hisR ?_
  intro p e s m args below meth c s₁ Bd hml0 hP hK
  obtain ⟨rfl, hZ, hh⟩ := hP
  have hx := Bd.exec
  have hby := Bd.bytes
  have hml : c.maxLocals = 4 := hml0
  have hown : s.vm.findClass "com/example/predicant/predicant/PaginationLimits" = some m.cls := findClass_of_methodNamed Bd.named
  have hnm := (name_of_methodNamed Bd.named Bd.method).1
  have hlk := Bd.notSynchronized
  have X0 : Stand p l e ({ frames := 1, cells := 0, slots := 0, locals := 12 } : Room) s m #[(.ref a1), (.int p2), (.int p3), (.int p4)] below meth c s₁ [] 0 0 := Stand.of_body Bd
  have e0 : s₁.heap = h0 := by rw [← hh, Bd.state]; rfl
  have N0 := Fr.nil n0
  show Go p.tables e below s ({ frames := 1, cells := 0, slots := 0, locals := 12 } : Room).cells ({ frames := 1, cells := 0, slots := 0, locals := 12 } : Room).slots (Q3 Z a1 p2 p3 p4 u0 u1 u2 h0 n0) _
  refine go (fun t k => castTop (ef_rm3 m a1 p2 p3 p4) k) ?_
  refine go (B := s₁.setTop (mkF m 1 #[.val (.ref a1), .val (.int p2), .val (.int p3), .val (.int p4)] [(.ref a1)])) (fun _ k => XS.aloadN X0.here hx rfl (hb hby d3_0) rfl rfl k) ?_
  obtain ⟨T1, X1, e1, st1⟩ := initO X0 hx hZ hown (hw _ (List.mem_of_getElem? (i := 14) rfl)) (hw _ (List.mem_of_getElem? (i := 15) rfl)) (hw _ (List.mem_of_getElem? (i := 16) rfl)) e0 (g := (mkF m 1 #[.val (.ref a1), .val (.int p2), .val (.int p3), .val (.int p4)] [(.ref a1)])) rfl (by rw [hml]; rfl) rfl (hb hby d3_1) (by decide) (W := 0) (by show 2 * 0 + _ ≤ _; exact Nat.le_of_eq rfl) (by decide)
  refine go (B := T1.setTop (mkF m 4 #[.val (.ref a1), .val (.int p2), .val (.int p3), .val (.int p4)] [])) (fun _ k => st1 _ k) ?_
  refine go (B := T1.setTop (mkF m 5 #[.val (.ref a1), .val (.int p2), .val (.int p3), .val (.int p4)] [(.int p3)])) (fun _ k => XS.iloadN X1.here hx rfl (hb hby d3_4) rfl k) ?_
  refine go (B := T1.setTop (mkF m 6 #[.val (.ref a1), .val (.int p2), .val (.int p3), .val (.int p4)] [(.int (1 : Int32)), (.int p3)])) (fun _ k => XS.iconst X1.here hx rfl (hb hby d3_5) k) ?_
  have hc6 : ¬ (p3 < (1 : Int32)) := (fun q => by simp only [Int32.lt_iff_toInt_lt, Int32.reduceToInt] at q; omega)
  refine go (B := T1.setTop (mkF m 23 #[.val (.ref a1), .val (.int p2), .val (.int p3), .val (.int p4)] [])) (fun _ k => XS.icmpYes X1.here hx rfl (pc0 := 6) (pc' := 23) rfl (hb hby d3_6) rfl (flt hc6).2.1 (by decide) (by decide) k) ?_
  refine go (B := T1.setTop (mkF m 24 #[.val (.ref a1), .val (.int p2), .val (.int p3), .val (.int p4)] [(.int p2)])) (fun _ k => XS.iloadN X1.here hx rfl (hb hby d3_23) rfl k) ?_
  refine go (B := T1.setTop (mkF m 25 #[.val (.ref a1), .val (.int p2), .val (.int p3), .val (.int p4)] [(.int (1 : Int32)), (.int p2)])) (fun _ k => XS.iconst X1.here hx rfl (hb hby d3_24) k) ?_
  have hc25 : ¬ (p2 < (1 : Int32)) := (fun q => by simp only [Int32.lt_iff_toInt_lt, Int32.reduceToInt] at q; omega)
  refine go (B := T1.setTop (mkF m 28 #[.val (.ref a1), .val (.int p2), .val (.int p3), .val (.int p4)] [])) (fun _ k => XS.icmpNo X1.here hx rfl (hb hby d3_25) rfl (flt hc25).1 k) ?_
  refine go (B := T1.setTop (mkF m 29 #[.val (.ref a1), .val (.int p2), .val (.int p3), .val (.int p4)] [(.int p2)])) (fun _ k => XS.iloadN X1.here hx rfl (hb hby d3_28) rfl k) ?_
  refine go (B := T1.setTop (mkF m 30 #[.val (.ref a1), .val (.int p2), .val (.int p3), .val (.int p4)] [(.int p3), (.int p2)])) (fun _ k => XS.iloadN X1.here hx rfl (hb hby d3_29) rfl k) ?_
  have hc30 : ¬ (p3 < p2) := (fun q => by simp only [Int32.lt_iff_toInt_lt, Int32.reduceToInt] at q; omega)
  refine go (B := T1.setTop (mkF m 48 #[.val (.ref a1), .val (.int p2), .val (.int p3), .val (.int p4)] [])) (fun _ k => XS.icmpYes X1.here hx rfl (pc0 := 30) (pc' := 48) rfl (hb hby d3_30) rfl (flt hc30).2.2.2 (by decide) (by decide) k) ?_
  refine go (B := T1.setTop (mkF m 49 #[.val (.ref a1), .val (.int p2), .val (.int p3), .val (.int p4)] [(.int p4)])) (fun _ k => XS.iloadN X1.here hx rfl (hb hby d3_48) rfl k) ?_
  have hc49 : ¬ (p4 < (0 : Int32)) := (fun q => by simp only [Int32.lt_iff_toInt_lt, Int32.reduceToInt] at q; omega)
  refine go (B := T1.setTop (mkF m 66 #[.val (.ref a1), .val (.int p2), .val (.int p3), .val (.int p4)] [])) (fun _ k => XS.ifYes X1.here hx rfl (pc0 := 49) (pc' := 66) rfl (hb hby d3_49) rfl ((if0 _ _).trans (flt hc49).2.1) (by decide) (by decide) k) ?_
  refine go (B := T1.setTop (mkF m 67 #[.val (.ref a1), .val (.int p2), .val (.int p3), .val (.int p4)] [(.ref a1)])) (fun _ k => XS.aloadN X1.here hx rfl (hb hby d3_66) rfl rfl k) ?_
  refine go (B := T1.setTop (mkF m 68 #[.val (.ref a1), .val (.int p2), .val (.int p3), .val (.int p4)] [(.int p2), (.ref a1)])) (fun _ k => XS.iloadN X1.here hx rfl (hb hby d3_67) rfl k) ?_
  obtain ⟨T2, h2, X2, e2, W2, st2⟩ := putF X1 hx hZ hown (host := "") (Or.inl (hw _ (List.mem_of_getElem? (i := 17) rfl))) Via.refl e1 F_mDefaultSize E_a1 (Or.inr ⟨(hw _ (List.mem_of_getElem? (i := 18) rfl)), rfl, hnm⟩) (hw _ (List.mem_of_getElem? (i := 10) rfl)) (ty := .int) (by decide) rfl rfl (g := (mkF m 68 #[.val (.ref a1), .val (.int p2), .val (.int p3), .val (.int p4)] [(.int p2), (.ref a1)])) rfl rfl (hb hby d3_68)
  replace E_a1 := E_a1.wr W2
  replace F_mDefaultSize := F_mDefaultSize.same W2
  replace F_mMaxSize := F_mMaxSize.other W2 (Or.inr (slot_ne (Or.inr (hw _ (List.mem_of_getElem? (i := 20) rfl))) (Or.inr (hw _ (List.mem_of_getElem? (i := 18) rfl))) (by decide) (t := .int) (t' := .int) (by decide) (by decide)))
  replace F_mMaxLength := F_mMaxLength.other W2 (Or.inr (slot_ne (Or.inr (hw _ (List.mem_of_getElem? (i := 22) rfl))) (Or.inr (hw _ (List.mem_of_getElem? (i := 18) rfl))) (by decide) (t := .int) (t' := .int) (by decide) (by decide)))
  have N2 := Fr.snoc X2 N0 g_a1
  have Z2 : n0 ≤ h2.size := Nat.le_trans Z0 (Keep.of_wr W2).1
  refine go (B := T2.setTop (mkF m 71 #[.val (.ref a1), .val (.int p2), .val (.int p3), .val (.int p4)] [])) (fun _ k => st2 _ k) ?_
  refine go (B := T2.setTop (mkF m 72 #[.val (.ref a1), .val (.int p2), .val (.int p3), .val (.int p4)] [(.ref a1)])) (fun _ k => XS.aloadN X2.here hx rfl (hb hby d3_71) rfl rfl k) ?_
  refine go (B := T2.setTop (mkF m 73 #[.val (.ref a1), .val (.int p2), .val (.int p3), .val (.int p4)] [(.int p3), (.ref a1)])) (fun _ k => XS.iloadN X2.here hx rfl (hb hby d3_72) rfl k) ?_
  obtain ⟨T3, h3, X3, e3, W3, st3⟩ := putF X2 hx hZ hown (host := "") (Or.inl (hw _ (List.mem_of_getElem? (i := 19) rfl))) Via.refl e2 F_mMaxSize E_a1 (Or.inr ⟨(hw _ (List.mem_of_getElem? (i := 20) rfl)), rfl, hnm⟩) (hw _ (List.mem_of_getElem? (i := 10) rfl)) (ty := .int) (by decide) rfl rfl (g := (mkF m 73 #[.val (.ref a1), .val (.int p2), .val (.int p3), .val (.int p4)] [(.int p3), (.ref a1)])) rfl rfl (hb hby d3_73)
  replace E_a1 := E_a1.wr W3
  replace F_mDefaultSize := F_mDefaultSize.other W3 (Or.inr (slot_ne (Or.inr (hw _ (List.mem_of_getElem? (i := 18) rfl))) (Or.inr (hw _ (List.mem_of_getElem? (i := 20) rfl))) (by decide) (t := .int) (t' := .int) (by decide) (by decide)))
  replace F_mMaxSize := F_mMaxSize.same W3
  replace F_mMaxLength := F_mMaxLength.other W3 (Or.inr (slot_ne (Or.inr (hw _ (List.mem_of_getElem? (i := 22) rfl))) (Or.inr (hw _ (List.mem_of_getElem? (i := 20) rfl))) (by decide) (t := .int) (t' := .int) (by decide) (by decide)))
  have N3 := Fr.snoc X3 N2 g_a1
  have Z3 : n0 ≤ h3.size := Nat.le_trans Z2 (Keep.of_wr W3).1
  refine go (B := T3.setTop (mkF m 76 #[.val (.ref a1), .val (.int p2), .val (.int p3), .val (.int p4)] [])) (fun _ k => st3 _ k) ?_
  refine go (B := T3.setTop (mkF m 77 #[.val (.ref a1), .val (.int p2), .val (.int p3), .val (.int p4)] [(.ref a1)])) (fun _ k => XS.aloadN X3.here hx rfl (hb hby d3_76) rfl rfl k) ?_
  refine go (B := T3.setTop (mkF m 78 #[.val (.ref a1), .val (.int p2), .val (.int p3), .val (.int p4)] [(.int p4), (.ref a1)])) (fun _ k => XS.iloadN X3.here hx rfl (hb hby d3_77) rfl k) ?_
  obtain ⟨T4, h4, X4, e4, W4, st4⟩ := putF X3 hx hZ hown (host := "") (Or.inl (hw _ (List.mem_of_getElem? (i := 21) rfl))) Via.refl e3 F_mMaxLength E_a1 (Or.inr ⟨(hw _ (List.mem_of_getElem? (i := 22) rfl)), rfl, hnm⟩) (hw _ (List.mem_of_getElem? (i := 10) rfl)) (ty := .int) (by decide) rfl rfl (g := (mkF m 78 #[.val (.ref a1), .val (.int p2), .val (.int p3), .val (.int p4)] [(.int p4), (.ref a1)])) rfl rfl (hb hby d3_78)
  replace E_a1 := E_a1.wr W4
  replace F_mDefaultSize := F_mDefaultSize.other W4 (Or.inr (slot_ne (Or.inr (hw _ (List.mem_of_getElem? (i := 18) rfl))) (Or.inr (hw _ (List.mem_of_getElem? (i := 22) rfl))) (by decide) (t := .int) (t' := .int) (by decide) (by decide)))
  replace F_mMaxSize := F_mMaxSize.other W4 (Or.inr (slot_ne (Or.inr (hw _ (List.mem_of_getElem? (i := 20) rfl))) (Or.inr (hw _ (List.mem_of_getElem? (i := 22) rfl))) (by decide) (t := .int) (t' := .int) (by decide) (by decide)))
  replace F_mMaxLength := F_mMaxLength.same W4
  have N4 := Fr.snoc X4 N3 g_a1
  have Z4 : n0 ≤ h4.size := Nat.le_trans Z3 (Keep.of_wr W4).1
  refine go (B := T4.setTop (mkF m 81 #[.val (.ref a1), .val (.int p2), .val (.int p3), .val (.int p4)] [])) (fun _ k => st4 _ k) ?_
  refine goRetV X4 hx Bd.returns hlk (hb hby d3_81) ?_ (by decide) (by decide)
  rw [e4]
  exact ⟨rfl, N4, Z4, E_a1, F_mDefaultSize, F_mMaxSize, F_mMaxLength⟩
theorem ef_rm2 (m : MethodId) (p1 : Int32) (p2 : Int32) : entryFrame m #[(.int p1), (.int p2)] 2 = mkF m 0 #[.val (.int p1), .val (.int p2)] [] := by first | (simp [entryFrame, mkF, argsToLocals, Value.category]; done) | rfl
def Q2 (Z : State) (p1 : Int32) (p2 : Int32) (h0 : Heap) (n0 : Nat) (v : Option Value) (h : Heap) (L : List Loc) : Prop := ∃ b : Addr, v = some (.ref b) ∧ Fr n0 L ∧ n0 ≤ h.size ∧ Exa Z h b "com/example/predicant/predicant/PaginationLimits" ∧ Fld Z h b "com/example/predicant/predicant/PaginationLimits" "mDefaultSize" "I" (.int p1) ∧ Fld Z h b "com/example/predicant/predicant/PaginationLimits" "mMaxSize" "I" (.int p2) ∧ Fld Z h b "com/example/predicant/predicant/PaginationLimits" "mMaxLength" "I" (.int 64)
theorem d2_0 : decode prog_33_method_3_code 0 = .ok (.new 21, 3) := by decide +kernel
theorem d2_3 : decode prog_33_method_3_code 3 = .ok (.dup, 1) := by decide +kernel
theorem d2_4 : decode prog_33_method_3_code 4 = .ok (.iload_n 0, 1) := by decide +kernel
theorem d2_5 : decode prog_33_method_3_code 5 = .ok (.iload_n 1, 1) := by decide +kernel
theorem d2_6 : decode prog_33_method_3_code 6 = .ok (.bipush 64, 2) := by decide +kernel
theorem d2_8 : decode prog_33_method_3_code 8 = .ok (.invokespecial 36, 3) := by decide +kernel
theorem pd__III_V : parseMethodDescriptor "(III)V" = some ⟨[.int, .int, .int], none⟩ := by decide +kernel
theorem d2_11 : decode prog_33_method_3_code 11 = .ok (.areturn, 1) := by decide +kernel
set_option maxRecDepth 65536 in
set_option maxHeartbeats 40000000 in
theorem rm2 (l : Launch) (Z : State) (a0 : Array Value) (hw : ∀ d ∈ tables_1, d.before a0 Z = true) (ws : List Jvm.Cond) (p1 : Int32) (p2 : Int32) (h0 : Heap) (n0 : Nat) (Z0 : n0 ≤ h0.size) (pb1 : 1 ≤ p2.toInt) (pb2 : 1 ≤ p1.toInt) (pb3 : p1.toInt ≤ p2.toInt) :
    MetFree l (⟨"com/example/predicant/predicant/PaginationLimits", "of", "(II)Lcom/example/predicant/predicant/PaginationLimits;"⟩ : MethodName) (head1 (Jvm.Cond.code (⟨"com/example/predicant/predicant/PaginationLimits", "of", "(II)Lcom/example/predicant/predicant/PaginationLimits;"⟩ : MethodName) prog_33_method_3_code 2 (some (.object "com/example/predicant/predicant/PaginationLimits")) :: ws) ({ frames := 2, cells := 1, slots := 3, locals := 40 } : Room)) (fun a U => a = #[(.int p1), (.int p2)] ∧ Z.Warmed39 U.vm ∧ U.heap = h0) (fun _ _ _ _ _ => True) (fun _ U o U' => ∃ v L, o = .returned v ∧ Q2 Z p1 p2 h0 n0 v U'.heap L ∧ FrameEnd U o U' L ({ frames := 2, cells := 1, slots := 3, locals := 40 } : Room).cells ({ frames := 2, cells := 1, slots := 3, locals := 40 } : Room).slots) := by
  refine MetFree.of_bodySF (plainFor_of_name pn_com_example_predicant_predicant_PaginationLimits) hisR ?_
  intro p e s m args below meth c s₁ Bd hml0 hP hK
  obtain ⟨rfl, hZ, hh⟩ := hP
  have hx := Bd.exec
  have hby := Bd.bytes
  have hml : c.maxLocals = 2 := hml0
  have hown : s.vm.findClass "com/example/predicant/predicant/PaginationLimits" = some m.cls := findClass_of_methodNamed Bd.named
  have hnm := (name_of_methodNamed Bd.named Bd.method).1
  have hlk := Bd.notSynchronized
  have X0 : Stand p l e ({ frames := 2, cells := 1, slots := 3, locals := 40 } : Room) s m #[(.int p1), (.int p2)] below meth c s₁ [] 0 0 := Stand.of_body Bd
  have e0 : s₁.heap = h0 := by rw [← hh, Bd.state]; rfl
  have N0 := Fr.nil n0
  show Go p.tables e below s ({ frames := 2, cells := 1, slots := 3, locals := 40 } : Room).cells ({ frames := 2, cells := 1, slots := 3, locals := 40 } : Room).slots (Q2 Z p1 p2 h0 n0) _
  refine go (fun t k => castTop (ef_rm2 m p1 p2) k) ?_
  obtain ⟨T1, h1, X1, e1, E1, A1, D1, -, st1⟩ := newO X0 hx hZ hown (hw _ (List.mem_of_getElem? (i := 9) rfl)) (hw _ (List.mem_of_getElem? (i := 10) rfl)) (hw _ (List.mem_of_getElem? (i := 7) rfl)) e0 (g := (mkF m 0 #[.val (.int p1), .val (.int p2)] [])) rfl (hb hby d2_0) (by decide) (by decide)
  obtain ⟨b1, g1⟩ : ∃ z, z = Array.size (h0) := ⟨_, rfl⟩
  rw [← g1] at A1 D1 st1
  have g_b1 : n0 ≤ b1 := Nat.le_trans Z0 (Nat.le_of_eq g1.symm)
  have Z1 : n0 ≤ h1.size := Nat.le_trans Z0 E1.1
  have F_mDefaultSize_b1 : Fld Z h1 b1 "com/example/predicant/predicant/PaginationLimits" "mDefaultSize" "I" (.int (0 : Int32)) := D1 (Or.inr (hw _ (List.mem_of_getElem? (i := 18) rfl))) (ty := .int) (by decide)
  have F_mMaxSize_b1 : Fld Z h1 b1 "com/example/predicant/predicant/PaginationLimits" "mMaxSize" "I" (.int (0 : Int32)) := D1 (Or.inr (hw _ (List.mem_of_getElem? (i := 20) rfl))) (ty := .int) (by decide)
  have F_mMaxLength_b1 : Fld Z h1 b1 "com/example/predicant/predicant/PaginationLimits" "mMaxLength" "I" (.int (0 : Int32)) := D1 (Or.inr (hw _ (List.mem_of_getElem? (i := 22) rfl))) (ty := .int) (by decide)
  refine go (B := T1.setTop (mkF m 3 #[.val (.int p1), .val (.int p2)] [(.ref b1)])) (fun _ k => st1 _ k) ?_
  refine go (B := T1.setTop (mkF m 4 #[.val (.int p1), .val (.int p2)] [(.ref b1), (.ref b1)])) (fun _ k => XS.dup X1.here hx rfl (hb hby d2_3) rfl rfl k) ?_
  refine go (B := T1.setTop (mkF m 5 #[.val (.int p1), .val (.int p2)] [(.int p1), (.ref b1), (.ref b1)])) (fun _ k => XS.iloadN X1.here hx rfl (hb hby d2_4) rfl k) ?_
  refine go (B := T1.setTop (mkF m 6 #[.val (.int p1), .val (.int p2)] [(.int p2), (.int p1), (.ref b1), (.ref b1)])) (fun _ k => XS.iloadN X1.here hx rfl (hb hby d2_5) rfl k) ?_
  refine go (B := T1.setTop (mkF m 8 #[.val (.int p1), .val (.int p2)] [(.int (64 : Int32)), (.int p2), (.int p1), (.ref b1), (.ref b1)])) (fun _ k => XS.bipush X1.here hx rfl (hb hby d2_6) k) ?_
  obtain ⟨_, _, ⟨T2, L2, k2, n2⟩, -, X2, ⟨Lc2, hQ2, l2, y2, z2⟩, st2⟩ := X1.specialBack hx (y := (⟨"com/example/predicant/predicant/PaginationLimits", "<init>", "(III)V"⟩ : MethodName)) rfl hown (mvT hZ (hw _ (List.mem_of_getElem? (i := 11) rfl))) (mvT hZ (hw _ (List.mem_of_getElem? (i := 12) rfl))) (mvT hZ (hw _ (List.mem_of_getElem? (i := 13) rfl))) (by decide) (backOf (W := 1) (rm3 l Z a0 hw [] b1 p1 p2 (64 : Int32) (.int (0 : Int32)) (.int (0 : Int32)) (.int (0 : Int32)) h1 n0 Z1 A1 F_mDefaultSize_b1 F_mMaxSize_b1 F_mMaxLength_b1 g_b1 pb1 pb2 pb3 (by decide)) hZ (hw _ (List.mem_of_getElem? (i := 13) rfl)) (hw _ (List.mem_of_getElem? (i := 7) rfl)) (by decide) (by decide)) (g := (mkF m 8 #[.val (.int p1), .val (.int p2)] [(.int (64 : Int32)), (.int p2), (.int p1), (.ref b1), (.ref b1)])) rfl (by rw [hml]; rfl) (Steps.refl _) (a := b1) (argsL := [(.int p1), (.int p2), (.int (64 : Int32))]) (rest := [(.ref b1)]) (lenOf pd__III_V rfl) rfl (by show 2 * 0 + _ ≤ _; exact Nat.le_of_eq rfl) (hb hby d2_8) (fun _ _ => ⟨rfl, e1, (by decide : 1 + 0 ≤ _), (by decide : 3 + 0 ≤ _)⟩)
  dsimp only [Pt.U, Pt.locs, Pt.cells, Pt.slots] at X2 l2 y2 z2 st2 hQ2
  subst l2 y2 z2
  obtain ⟨rfl, N2q, Zb, E_b, G_mDefaultSize, G_mMaxSize, G_mMaxLength⟩ := hQ2
  have N2 := Fr.app N0 N2q
  refine go (B := T2.setTop (mkF m 11 #[.val (.int p1), .val (.int p2)] [(.ref b1)])) (fun _ k => st2.trans k) ?_
  refine goRetR X2 hx Bd.returns rfl hlk (hb hby d2_11) ?_ (by decide) (by decide)
  exact ⟨_, rfl, N2, Zb, E_b, G_mDefaultSize, G_mMaxSize, G_mMaxLength⟩
theorem ef_rm5 (m : MethodId) (a1 : Addr) : entryFrame m #[(.ref a1)] 1 = mkF m 0 #[.val (.ref a1)] [] := by first | (simp [entryFrame, mkF, argsToLocals, Value.category]; done) | rfl
def Q5 (Z : State) (a1 : Addr) (z : Int32) (h0 : Heap) (n0 : Nat) (v : Option Value) (h : Heap) (L : List Loc) : Prop := v = some (.int z) ∧ Fr n0 L ∧ h = h0
theorem d5_0 : decode prog_33_method_5_code 0 = .ok (.aload_n 0, 1) := by decide +kernel
theorem d5_1 : decode prog_33_method_5_code 1 = .ok (.getfield 20, 3) := by decide +kernel
theorem d5_4 : decode prog_33_method_5_code 4 = .ok (.ireturn, 1) := by decide +kernel
set_option maxRecDepth 65536 in
set_option maxHeartbeats 40000000 in
theorem rm5 (l : Launch) (Z : State) (a0 : Array Value) (hw : ∀ d ∈ tables_1, d.before a0 Z = true) (ws : List Jvm.Cond) (a1 : Addr) (z : Int32) (h0 : Heap) (n0 : Nat) (Z0 : n0 ≤ h0.size) (F_mDefaultSize : Fld Z h0 a1 "com/example/predicant/predicant/PaginationLimits" "mDefaultSize" "I" (.int z)) :
    MetFree l (⟨"com/example/predicant/predicant/PaginationLimits", "getDefaultSize", "()I"⟩ : MethodName) (head1 (Jvm.Cond.code (⟨"com/example/predicant/predicant/PaginationLimits", "getDefaultSize", "()I"⟩ : MethodName) prog_33_method_5_code 1 (some .int) :: ws) ({ frames := 0, cells := 0, slots := 0, locals := 0 } : Room)) (fun a U => a = #[(.ref a1)] ∧ Z.Warmed39 U.vm ∧ U.heap = h0) (fun _ _ _ _ _ => True) (fun _ U o U' => ∃ v L, o = .returned v ∧ Q5 Z a1 z h0 n0 v U'.heap L ∧ FrameEnd U o U' L ({ frames := 0, cells := 0, slots := 0, locals := 0 } : Room).cells ({ frames := 0, cells := 0, slots := 0, locals := 0 } : Room).slots) := by
  refine MetFree.of_bodySF (plainFor_of_name pn_com_example_predicant_predicant_PaginationLimits) hisR ?_
  intro p e s m args below meth c s₁ Bd hml0 hP hK
  obtain ⟨rfl, hZ, hh⟩ := hP
  have hx := Bd.exec
  have hby := Bd.bytes
  have hml : c.maxLocals = 1 := hml0
  have hown : s.vm.findClass "com/example/predicant/predicant/PaginationLimits" = some m.cls := findClass_of_methodNamed Bd.named
  have hnm := (name_of_methodNamed Bd.named Bd.method).1
  have hlk := Bd.notSynchronized
  have X0 : Stand p l e ({ frames := 0, cells := 0, slots := 0, locals := 0 } : Room) s m #[(.ref a1)] below meth c s₁ [] 0 0 := Stand.of_body Bd
  have e0 : s₁.heap = h0 := by rw [← hh, Bd.state]; rfl
  have N0 := Fr.nil n0
  show Go p.tables e below s ({ frames := 0, cells := 0, slots := 0, locals := 0 } : Room).cells ({ frames := 0, cells := 0, slots := 0, locals := 0 } : Room).slots (Q5 Z a1 z h0 n0) _
  refine go (fun t k => castTop (ef_rm5 m a1) k) ?_
  refine go (B := s₁.setTop (mkF m 1 #[.val (.ref a1)] [(.ref a1)])) (fun _ k => XS.aloadN X0.here hx rfl (hb hby d5_0) rfl rfl k) ?_
  obtain ⟨T1, X1, e1, st1⟩ := getF X0 hx hZ hown (host := "") (Or.inl (hw _ (List.mem_of_getElem? (i := 17) rfl))) Via.refl e0 F_mDefaultSize (g := (mkF m 1 #[.val (.ref a1)] [(.ref a1)])) rfl rfl (hb hby d5_1)
  refine go (B := T1.setTop (mkF m 4 #[.val (.ref a1)] [(.int z)])) (fun _ k => st1 _ k) ?_
  refine goRetI X1 hx Bd.returns hlk (hb hby d5_4) ?_ (by decide) (by decide)
  rw [e1]
  exact ⟨rfl, N0, rfl⟩
theorem ef_rm6 (m : MethodId) (a1 : Addr) : entryFrame m #[(.ref a1)] 1 = mkF m 0 #[.val (.ref a1)] [] := by first | (simp [entryFrame, mkF, argsToLocals, Value.category]; done) | rfl
def Q6 (Z : State) (a1 : Addr) (z : Int32) (h0 : Heap) (n0 : Nat) (v : Option Value) (h : Heap) (L : List Loc) : Prop := v = some (.int z) ∧ Fr n0 L ∧ h = h0
theorem d6_0 : decode prog_33_method_6_code 0 = .ok (.aload_n 0, 1) := by decide +kernel
theorem d6_1 : decode prog_33_method_6_code 1 = .ok (.getfield 26, 3) := by decide +kernel
theorem d6_4 : decode prog_33_method_6_code 4 = .ok (.ireturn, 1) := by decide +kernel
set_option maxRecDepth 65536 in
set_option maxHeartbeats 40000000 in
theorem rm6 (l : Launch) (Z : State) (a0 : Array Value) (hw : ∀ d ∈ tables_1, d.before a0 Z = true) (ws : List Jvm.Cond) (a1 : Addr) (z : Int32) (h0 : Heap) (n0 : Nat) (Z0 : n0 ≤ h0.size) (F_mMaxSize : Fld Z h0 a1 "com/example/predicant/predicant/PaginationLimits" "mMaxSize" "I" (.int z)) :
    MetFree l (⟨"com/example/predicant/predicant/PaginationLimits", "getMaxSize", "()I"⟩ : MethodName) (head1 (Jvm.Cond.code (⟨"com/example/predicant/predicant/PaginationLimits", "getMaxSize", "()I"⟩ : MethodName) prog_33_method_6_code 1 (some .int) :: ws) ({ frames := 0, cells := 0, slots := 0, locals := 0 } : Room)) (fun a U => a = #[(.ref a1)] ∧ Z.Warmed39 U.vm ∧ U.heap = h0) (fun _ _ _ _ _ => True) (fun _ U o U' => ∃ v L, o = .returned v ∧ Q6 Z a1 z h0 n0 v U'.heap L ∧ FrameEnd U o U' L ({ frames := 0, cells := 0, slots := 0, locals := 0 } : Room).cells ({ frames := 0, cells := 0, slots := 0, locals := 0 } : Room).slots) := by
  refine MetFree.of_bodySF (plainFor_of_name pn_com_example_predicant_predicant_PaginationLimits) hisR ?_
  intro p e s m args below meth c s₁ Bd hml0 hP hK
  obtain ⟨rfl, hZ, hh⟩ := hP
  have hx := Bd.exec
  have hby := Bd.bytes
  have hml : c.maxLocals = 1 := hml0
  have hown : s.vm.findClass "com/example/predicant/predicant/PaginationLimits" = some m.cls := findClass_of_methodNamed Bd.named
  have hnm := (name_of_methodNamed Bd.named Bd.method).1
  have hlk := Bd.notSynchronized
  have X0 : Stand p l e ({ frames := 0, cells := 0, slots := 0, locals := 0 } : Room) s m #[(.ref a1)] below meth c s₁ [] 0 0 := Stand.of_body Bd
  have e0 : s₁.heap = h0 := by rw [← hh, Bd.state]; rfl
  have N0 := Fr.nil n0
  show Go p.tables e below s ({ frames := 0, cells := 0, slots := 0, locals := 0 } : Room).cells ({ frames := 0, cells := 0, slots := 0, locals := 0 } : Room).slots (Q6 Z a1 z h0 n0) _
  refine go (fun t k => castTop (ef_rm6 m a1) k) ?_
  refine go (B := s₁.setTop (mkF m 1 #[.val (.ref a1)] [(.ref a1)])) (fun _ k => XS.aloadN X0.here hx rfl (hb hby d6_0) rfl rfl k) ?_
  obtain ⟨T1, X1, e1, st1⟩ := getF X0 hx hZ hown (host := "") (Or.inl (hw _ (List.mem_of_getElem? (i := 19) rfl))) Via.refl e0 F_mMaxSize (g := (mkF m 1 #[.val (.ref a1)] [(.ref a1)])) rfl rfl (hb hby d6_1)
  refine go (B := T1.setTop (mkF m 4 #[.val (.ref a1)] [(.int z)])) (fun _ k => st1 _ k) ?_
  refine goRetI X1 hx Bd.returns hlk (hb hby d6_4) ?_ (by decide) (by decide)
  rw [e1]
  exact ⟨rfl, N0, rfl⟩
theorem ef_rm7 (m : MethodId) (a1 : Addr) : entryFrame m #[(.ref a1)] 1 = mkF m 0 #[.val (.ref a1)] [] := by first | (simp [entryFrame, mkF, argsToLocals, Value.category]; done) | rfl
def Q7 (Z : State) (a1 : Addr) (z : Int32) (h0 : Heap) (n0 : Nat) (v : Option Value) (h : Heap) (L : List Loc) : Prop := v = some (.int z) ∧ Fr n0 L ∧ h = h0
theorem d7_0 : decode prog_33_method_7_code 0 = .ok (.aload_n 0, 1) := by decide +kernel
theorem d7_1 : decode prog_33_method_7_code 1 = .ok (.getfield 29, 3) := by decide +kernel
theorem d7_4 : decode prog_33_method_7_code 4 = .ok (.ireturn, 1) := by decide +kernel
set_option maxRecDepth 65536 in
set_option maxHeartbeats 40000000 in
theorem rm7 (l : Launch) (Z : State) (a0 : Array Value) (hw : ∀ d ∈ tables_1, d.before a0 Z = true) (ws : List Jvm.Cond) (a1 : Addr) (z : Int32) (h0 : Heap) (n0 : Nat) (Z0 : n0 ≤ h0.size) (F_mMaxLength : Fld Z h0 a1 "com/example/predicant/predicant/PaginationLimits" "mMaxLength" "I" (.int z)) :
    MetFree l (⟨"com/example/predicant/predicant/PaginationLimits", "getMaxLength", "()I"⟩ : MethodName) (head1 (Jvm.Cond.code (⟨"com/example/predicant/predicant/PaginationLimits", "getMaxLength", "()I"⟩ : MethodName) prog_33_method_7_code 1 (some .int) :: ws) ({ frames := 0, cells := 0, slots := 0, locals := 0 } : Room)) (fun a U => a = #[(.ref a1)] ∧ Z.Warmed39 U.vm ∧ U.heap = h0) (fun _ _ _ _ _ => True) (fun _ U o U' => ∃ v L, o = .returned v ∧ Q7 Z a1 z h0 n0 v U'.heap L ∧ FrameEnd U o U' L ({ frames := 0, cells := 0, slots := 0, locals := 0 } : Room).cells ({ frames := 0, cells := 0, slots := 0, locals := 0 } : Room).slots) := by
  refine MetFree.of_bodySF (plainFor_of_name pn_com_example_predicant_predicant_PaginationLimits) hisR ?_
  intro p e s m args below meth c s₁ Bd hml0 hP hK
  obtain ⟨rfl, hZ, hh⟩ := hP
  have hx := Bd.exec
  have hby := Bd.bytes
  have hml : c.maxLocals = 1 := hml0
  have hown : s.vm.findClass "com/example/predicant/predicant/PaginationLimits" = some m.cls := findClass_of_methodNamed Bd.named
  have hnm := (name_of_methodNamed Bd.named Bd.method).1
  have hlk := Bd.notSynchronized
  have X0 : Stand p l e ({ frames := 0, cells := 0, slots := 0, locals := 0 } : Room) s m #[(.ref a1)] below meth c s₁ [] 0 0 := Stand.of_body Bd
  have e0 : s₁.heap = h0 := by rw [← hh, Bd.state]; rfl
  have N0 := Fr.nil n0
  show Go p.tables e below s ({ frames := 0, cells := 0, slots := 0, locals := 0 } : Room).cells ({ frames := 0, cells := 0, slots := 0, locals := 0 } : Room).slots (Q7 Z a1 z h0 n0) _
  refine go (fun t k => castTop (ef_rm7 m a1) k) ?_
  refine go (B := s₁.setTop (mkF m 1 #[.val (.ref a1)] [(.ref a1)])) (fun _ k => XS.aloadN X0.here hx rfl (hb hby d7_0) rfl rfl k) ?_
  obtain ⟨T1, X1, e1, st1⟩ := getF X0 hx hZ hown (host := "") (Or.inl (hw _ (List.mem_of_getElem? (i := 21) rfl))) Via.refl e0 F_mMaxLength (g := (mkF m 1 #[.val (.ref a1)] [(.ref a1)])) rfl rfl (hb hby d7_1)
  refine go (B := T1.setTop (mkF m 4 #[.val (.ref a1)] [(.int z)])) (fun _ k => st1 _ k) ?_
  refine goRetI X1 hx Bd.returns hlk (hb hby d7_4) ?_ (by decide) (by decide)
  rw [e1]
  exact ⟨rfl, N0, rfl⟩
theorem pn_com_example_predicant_predicant_PaginationLimitsOfPinLaw : plainName "com/example/predicant/predicant/PaginationLimitsOfPinLaw" = true := by first | (simp [plainName, overriddenIn]; done) | decide +kernel
theorem ef_rm0 (m : MethodId) (p1 : Int32) (p2 : Int32) (p3 : Int32) : entryFrame m #[(.int p1), (.int p2), (.int p3)] maxLocals = mkF m 0 #[.val (.int p1), .val (.int p2), .val (.int p3), .unset, .unset, .unset, .unset] [] := by first | (simp [entryFrame, mkF, argsToLocals, Value.category, maxLocals]; done) | rfl
def Q0 (Z : State) (p1 : Int32) (p2 : Int32) (p3 : Int32) (h0 : Heap) (n0 : Nat) (v : Option Value) (h : Heap) (L : List Loc) : Prop := v = some (.int 1) ∧ Fr n0 L
theorem pd__II_I : parseMethodDescriptor "(II)I" = some ⟨[.int, .int], some .int⟩ := by decide +kernel
theorem pd__II_Lcom_example_predicant_predicant_PaginationLimits_ : parseMethodDescriptor "(II)Lcom/example/predicant/predicant/PaginationLimits;" = some ⟨[.int, .int], some (.object "com/example/predicant/predicant/PaginationLimits")⟩ := by decide +kernel
theorem pd___I : parseMethodDescriptor "()I" = some ⟨[], some .int⟩ := by decide +kernel
set_option maxRecDepth 65536 in
set_option maxHeartbeats 40000000 in
theorem rm0 (l : Launch) (Z : State) (a0 : Array Value) (hw : ∀ d ∈ tables_1, d.before a0 Z = true) (ws : List Jvm.Cond) (p1 : Int32) (p2 : Int32) (p3 : Int32) (h0 : Heap) (n0 : Nat) (Z0 : n0 ≤ h0.size) :
    MetFree l x (head1 (Jvm.Cond.code x code maxLocals ret :: ws) room_1) (fun a U => a = #[(.int p1), (.int p2), (.int p3)] ∧ Z.Warmed39 U.vm ∧ U.heap = h0) (fun _ _ _ _ _ => True) (fun _ U o U' => ∃ v L, o = .returned v ∧ Q0 Z p1 p2 p3 h0 n0 v U'.heap L ∧ FrameEnd U o U' L room_1.cells room_1.slots) := by
  refine MetFree.of_bodySF (plainFor_of_name pn_com_example_predicant_predicant_PaginationLimitsOfPinLaw) hisR ?_
  intro p e s m args below meth c s₁ Bd hml0 hP hK
  obtain ⟨rfl, hZ, hh⟩ := hP
  have hx := Bd.exec
  have hby := Bd.bytes
  have hml : c.maxLocals = 7 := hml0
  have hown : s.vm.findClass "com/example/predicant/predicant/PaginationLimitsOfPinLaw" = some m.cls := findClass_of_methodNamed Bd.named
  have hnm := (name_of_methodNamed Bd.named Bd.method).1
  have hlk := Bd.notSynchronized
  have X0 : Stand p l e room_1 s m #[(.int p1), (.int p2), (.int p3)] below meth c s₁ [] 0 0 := Stand.of_body Bd
  have e0 : s₁.heap = h0 := by rw [← hh, Bd.state]; rfl
  have N0 := Fr.nil n0
  show Go p.tables e below s room_1.cells room_1.slots (Q0 Z p1 p2 p3 h0 n0) _
  refine go (fun t k => castTop (ef_rm0 m p1 p2 p3) k) ?_
  refine go (B := s₁.setTop (mkF m 1 #[.val (.int p1), .val (.int p2), .val (.int p3), .unset, .unset, .unset, .unset] [(.int (1 : Int32))])) (fun _ k => XS.iconst X0.here hx rfl (hb hby at_0) k) ?_
  refine go (B := s₁.setTop (mkF m 2 #[.val (.int p1), .val (.int p2), .val (.int p3), .unset, .unset, .unset, .unset] [(.int p1), (.int (1 : Int32))])) (fun _ k => XS.iloadN X0.here hx rfl (hb hby at_1) rfl k) ?_
  refine go (B := s₁.setTop (mkF m 4 #[.val (.int p1), .val (.int p2), .val (.int p3), .unset, .unset, .unset, .unset] [(.int (2147483647 : Int32)), (.int p1), (.int (1 : Int32))])) (fun _ k => X0.ldcInt hx hown (mvT hZ (hw _ (List.mem_of_getElem? (i := 0) rfl))) (g := (mkF m 2 #[.val (.int p1), .val (.int p2), .val (.int p3), .unset, .unset, .unset, .unset] [(.int p1), (.int (1 : Int32))])) rfl (hb hby at_2) _ k) ?_
  refine go (B := s₁.setTop (mkF m 5 #[.val (.int p1), .val (.int p2), .val (.int p3), .unset, .unset, .unset, .unset] [(.int (p1 &&& (2147483647 : Int32))), (.int (1 : Int32))])) (fun _ k => XS.iand X0.here hx rfl (hb hby at_4) rfl k) ?_
  obtain ⟨_, _, ⟨T1, L1, k1, n1⟩, -, X1, ⟨Lc1, hQ1, l1, y1, z1⟩, st1⟩ := Jvm.LawKit.callS X0 hx (y := (⟨"java/lang/Math", "max", "(II)I"⟩ : MethodName)) hown (mvT hZ (hw _ (List.mem_of_getElem? (i := 1) rfl))) (mvT hZ (hw _ (List.mem_of_getElem? (i := 2) rfl))) (mvT hZ (hw _ (List.mem_of_getElem? (i := 3) rfl))) (mvT hZ (hw _ (List.mem_of_getElem? (i := 4) rfl))) (by decide) (backOf (W := 0) (rm1 l Z a0 hw [] (1 : Int32) (p1 &&& (2147483647 : Int32)) h0 n0 Z0) hZ (hw _ (List.mem_of_getElem? (i := 4) rfl)) (hw _ (List.mem_of_getElem? (i := 3) rfl)) (by decide) (by decide)) (g := (mkF m 5 #[.val (.int p1), .val (.int p2), .val (.int p3), .unset, .unset, .unset, .unset] [(.int (p1 &&& (2147483647 : Int32))), (.int (1 : Int32))])) rfl (by rw [hml]; rfl) (argsL := [(.int (1 : Int32)), (.int (p1 &&& (2147483647 : Int32)))]) (rest := []) (lenOf pd__II_I rfl) rfl (by show 2 * 0 + _ ≤ _; exact Nat.le_of_eq rfl) (hb hby at_5) (fun _ _ => ⟨rfl, e0, (by decide : 0 + 0 ≤ _), (by decide : 0 + 0 ≤ _)⟩)
  dsimp only [Pt.U, Pt.locs, Pt.cells, Pt.slots] at X1 l1 y1 z1 st1 hQ1
  subst l1 y1 z1
  obtain ⟨rfl, N1q, e1⟩ := hQ1
  have N1 := Fr.app N0 N1q
  refine go (B := T1.setTop (mkF m 8 #[.val (.int p1), .val (.int p2), .val (.int p3), .unset, .unset, .unset, .unset] [(.int (fMax (1 : Int32) (p1 &&& (2147483647 : Int32))))])) (fun _ k => st1 _ k) ?_
  refine go (B := T1.setTop (mkF m 9 #[.val (.int p1), .val (.int p2), .val (.int p3), .val (.int (fMax (1 : Int32) (p1 &&& (2147483647 : Int32)))), .unset, .unset, .unset] [])) (fun _ k => XS.istoreN X1.here hx rfl (hb hby at_8) rfl (l' := #[.val (.int p1), .val (.int p2), .val (.int p3), .val (.int (fMax (1 : Int32) (p1 &&& (2147483647 : Int32)))), .unset, .unset, .unset]) rfl k) ?_
  refine go (B := T1.setTop (mkF m 10 #[.val (.int p1), .val (.int p2), .val (.int p3), .val (.int (fMax (1 : Int32) (p1 &&& (2147483647 : Int32)))), .unset, .unset, .unset] [(.int p3)])) (fun _ k => XS.iloadN X1.here hx rfl (hb hby at_9) rfl k) ?_
  refine go (B := T1.setTop (mkF m 11 #[.val (.int p1), .val (.int p2), .val (.int p3), .val (.int (fMax (1 : Int32) (p1 &&& (2147483647 : Int32)))), .unset, .unset, .unset] [(.int (3 : Int32)), (.int p3)])) (fun _ k => XS.iconst X1.here hx rfl (hb hby at_10) k) ?_
  refine go (B := T1.setTop (mkF m 12 #[.val (.int p1), .val (.int p2), .val (.int p3), .val (.int (fMax (1 : Int32) (p1 &&& (2147483647 : Int32)))), .unset, .unset, .unset] [(.int (p3 &&& (3 : Int32)))])) (fun _ k => XS.iand X1.here hx rfl (hb hby at_11) rfl k) ?_
  refine go (B := T1.setTop (mkF m 14 #[.val (.int p1), .val (.int p2), .val (.int p3), .val (.int (fMax (1 : Int32) (p1 &&& (2147483647 : Int32)))), .val (.int (p3 &&& (3 : Int32))), .unset, .unset] [])) (fun _ k => XS.istore X1.here hx rfl (hb hby at_12) rfl (l' := #[.val (.int p1), .val (.int p2), .val (.int p3), .val (.int (fMax (1 : Int32) (p1 &&& (2147483647 : Int32)))), .val (.int (p3 &&& (3 : Int32))), .unset, .unset]) rfl k) ?_
  refine go (B := T1.setTop (mkF m 16 #[.val (.int p1), .val (.int p2), .val (.int p3), .val (.int (fMax (1 : Int32) (p1 &&& (2147483647 : Int32)))), .val (.int (p3 &&& (3 : Int32))), .unset, .unset] [(.int (p3 &&& (3 : Int32)))])) (fun _ k => XS.iload X1.here hx rfl (hb hby at_14) rfl k) ?_
  by_cases hc16 : (p3 &&& (3 : Int32)) = (0 : Int32)
  · refine go (B := T1.setTop (mkF m 19 #[.val (.int p1), .val (.int p2), .val (.int p3), .val (.int (fMax (1 : Int32) (p1 &&& (2147483647 : Int32)))), .val (.int (p3 &&& (3 : Int32))), .unset, .unset] [])) (fun _ k => XS.ifNo X1.here hx rfl (hb hby at_16) rfl ((if0 _ _).trans (teq hc16).2) k) ?_
    refine go (B := T1.setTop (mkF m 20 #[.val (.int p1), .val (.int p2), .val (.int p3), .val (.int (fMax (1 : Int32) (p1 &&& (2147483647 : Int32)))), .val (.int (p3 &&& (3 : Int32))), .unset, .unset] [(.int (1 : Int32))])) (fun _ k => XS.iconst X1.here hx rfl (hb hby at_19) k) ?_
    refine go (B := T1.setTop (mkF m 22 #[.val (.int p1), .val (.int p2), .val (.int p3), .val (.int (fMax (1 : Int32) (p1 &&& (2147483647 : Int32)))), .val (.int (p3 &&& (3 : Int32))), .val (.int (1 : Int32)), .unset] [])) (fun _ k => XS.istore X1.here hx rfl (hb hby at_20) rfl (l' := #[.val (.int p1), .val (.int p2), .val (.int p3), .val (.int (fMax (1 : Int32) (p1 &&& (2147483647 : Int32)))), .val (.int (p3 &&& (3 : Int32))), .val (.int (1 : Int32)), .unset]) rfl k) ?_
    refine go (B := T1.setTop (mkF m 47 #[.val (.int p1), .val (.int p2), .val (.int p3), .val (.int (fMax (1 : Int32) (p1 &&& (2147483647 : Int32)))), .val (.int (p3 &&& (3 : Int32))), .val (.int (1 : Int32)), .unset] [])) (fun _ k => XS.goto X1.here hx rfl (pc0 := 22) (pc' := 47) rfl (hb hby at_22) (by decide) (by decide) k) ?_
    refine go (B := T1.setTop (mkF m 49 #[.val (.int p1), .val (.int p2), .val (.int p3), .val (.int (fMax (1 : Int32) (p1 &&& (2147483647 : Int32)))), .val (.int (p3 &&& (3 : Int32))), .val (.int (1 : Int32)), .unset] [(.int (1 : Int32))])) (fun _ k => XS.iload X1.here hx rfl (hb hby at_47) rfl k) ?_
    refine go (B := T1.setTop (mkF m 50 #[.val (.int p1), .val (.int p2), .val (.int p3), .val (.int (fMax (1 : Int32) (p1 &&& (2147483647 : Int32)))), .val (.int (p3 &&& (3 : Int32))), .val (.int (1 : Int32)), .unset] [(.int (fMax (1 : Int32) (p1 &&& (2147483647 : Int32)))), (.int (1 : Int32))])) (fun _ k => XS.iloadN X1.here hx rfl (hb hby at_49) rfl k) ?_
    have bm : 1 ≤ ((fMax (1 : Int32) (p1 &&& (2147483647 : Int32)))).toInt := m_pos p1
    have bd : 1 ≤ ((1 : Int32)).toInt ∧ ((1 : Int32)).toInt ≤ ((fMax (1 : Int32) (p1 &&& (2147483647 : Int32)))).toInt := ⟨by decide, bm⟩
    obtain ⟨_, _, ⟨T2, L2, k2, n2⟩, -, X2, ⟨Lc2, hQ2, l2, y2, z2⟩, st2⟩ := Jvm.LawKit.callS X1 hx (y := (⟨"com/example/predicant/predicant/PaginationLimits", "of", "(II)Lcom/example/predicant/predicant/PaginationLimits;"⟩ : MethodName)) hown (mvT hZ (hw _ (List.mem_of_getElem? (i := 5) rfl))) (mvT hZ (hw _ (List.mem_of_getElem? (i := 6) rfl))) (mvT hZ (hw _ (List.mem_of_getElem? (i := 7) rfl))) (mvT hZ (hw _ (List.mem_of_getElem? (i := 8) rfl))) (by decide) (backOf (W := 0) (rm2 l Z a0 hw [] (1 : Int32) (fMax (1 : Int32) (p1 &&& (2147483647 : Int32))) h0 n0 Z0 bm bd.1 bd.2) hZ (hw _ (List.mem_of_getElem? (i := 8) rfl)) (hw _ (List.mem_of_getElem? (i := 7) rfl)) (by decide) (by decide)) (g := (mkF m 50 #[.val (.int p1), .val (.int p2), .val (.int p3), .val (.int (fMax (1 : Int32) (p1 &&& (2147483647 : Int32)))), .val (.int (p3 &&& (3 : Int32))), .val (.int (1 : Int32)), .unset] [(.int (fMax (1 : Int32) (p1 &&& (2147483647 : Int32)))), (.int (1 : Int32))])) rfl (by rw [hml]; rfl) (argsL := [(.int (1 : Int32)), (.int (fMax (1 : Int32) (p1 &&& (2147483647 : Int32))))]) (rest := []) (lenOf pd__II_Lcom_example_predicant_predicant_PaginationLimits_ rfl) rfl (by show 2 * 0 + _ ≤ _; exact Nat.le_of_eq rfl) (hb hby at_50) (fun _ _ => ⟨rfl, e1, (by decide : 0 + 1 ≤ _), (by decide : 0 + 3 ≤ _)⟩)
    dsimp only [Pt.U, Pt.locs, Pt.cells, Pt.slots] at X2 l2 y2 z2 st2 hQ2
    subst l2 y2 z2
    obtain ⟨ob, rfl, N2q, Zo, E_ob, G_mDefaultSize, G_mMaxSize, G_mMaxLength⟩ := hQ2
    have N2 := Fr.app N1 N2q
    refine go (B := T2.setTop (mkF m 53 #[.val (.int p1), .val (.int p2), .val (.int p3), .val (.int (fMax (1 : Int32) (p1 &&& (2147483647 : Int32)))), .val (.int (p3 &&& (3 : Int32))), .val (.int (1 : Int32)), .unset] [(.ref ob)])) (fun _ k => st2 _ k) ?_
    refine go (B := T2.setTop (mkF m 55 #[.val (.int p1), .val (.int p2), .val (.int p3), .val (.int (fMax (1 : Int32) (p1 &&& (2147483647 : Int32)))), .val (.int (p3 &&& (3 : Int32))), .val (.int (1 : Int32)), .val (.ref ob)] [])) (fun _ k => XS.astore X2.here hx rfl (hb hby at_53) rfl rfl (l' := #[.val (.int p1), .val (.int p2), .val (.int p3), .val (.int (fMax (1 : Int32) (p1 &&& (2147483647 : Int32)))), .val (.int (p3 &&& (3 : Int32))), .val (.int (1 : Int32)), .val (.ref ob)]) rfl k) ?_
    refine go (B := T2.setTop (mkF m 57 #[.val (.int p1), .val (.int p2), .val (.int p3), .val (.int (fMax (1 : Int32) (p1 &&& (2147483647 : Int32)))), .val (.int (p3 &&& (3 : Int32))), .val (.int (1 : Int32)), .val (.ref ob)] [(.ref ob)])) (fun _ k => XS.aload X2.here hx rfl (hb hby at_55) rfl rfl k) ?_
    obtain ⟨cq3, kq3, q3a, q3b, q3c⟩ := isOf hZ rfl E_ob
    obtain ⟨_, _, ⟨T3, L3, k3, n3⟩, -, X3, ⟨Lc3, hQ3, l3, y3, z3⟩, st3⟩ := X2.virtualBack hx (y := (⟨"com/example/predicant/predicant/PaginationLimits", "getDefaultSize", "()I"⟩ : MethodName)) (z := (⟨"com/example/predicant/predicant/PaginationLimits", "getDefaultSize", "()I"⟩ : MethodName)) hown (mvT hZ (hw _ (List.mem_of_getElem? (i := 23) rfl))) (mvT hZ (hw _ (List.mem_of_getElem? (i := 24) rfl))) (notFace_of_selects (args := #[]) (mvT hZ (hw _ (List.mem_of_getElem? (i := 26) rfl)))) (mvT hZ (hw _ (List.mem_of_getElem? (i := 26) rfl))) (mvT hZ (hw _ (List.mem_of_getElem? (i := 25) rfl))) (by decide) (backOf (W := 0) (rm5 l Z a0 hw [] ob (1 : Int32) T2.heap n0 Zo G_mDefaultSize) hZ (hw _ (List.mem_of_getElem? (i := 27) rfl)) (hw _ (List.mem_of_getElem? (i := 7) rfl)) (by decide) (by decide)) q3a q3c (g := (mkF m 57 #[.val (.int p1), .val (.int p2), .val (.int p3), .val (.int (fMax (1 : Int32) (p1 &&& (2147483647 : Int32)))), .val (.int (p3 &&& (3 : Int32))), .val (.int (1 : Int32)), .val (.ref ob)] [(.ref ob)])) rfl (by rw [hml]; rfl) (Steps.refl _) (argsL := []) (rest := []) (lenOf pd___I rfl) rfl (by show 2 * 0 + _ ≤ _; exact Nat.le_of_eq rfl) (hb hby at_57) (fun _ _ => ⟨rfl, rfl, (by decide : 1 + 0 ≤ _), (by decide : 3 + 0 ≤ _)⟩)
    dsimp only [Pt.U, Pt.locs, Pt.cells, Pt.slots] at X3 l3 y3 z3 st3 hQ3
    subst l3 y3 z3
    obtain ⟨rfl, N3q, e3⟩ := hQ3
    have N3 := Fr.app N2 N3q
    refine go (B := T3.setTop (mkF m 60 #[.val (.int p1), .val (.int p2), .val (.int p3), .val (.int (fMax (1 : Int32) (p1 &&& (2147483647 : Int32)))), .val (.int (p3 &&& (3 : Int32))), .val (.int (1 : Int32)), .val (.ref ob)] [(.int (1 : Int32))])) (fun _ k => st3.trans k) ?_
    refine go (B := T3.setTop (mkF m 62 #[.val (.int p1), .val (.int p2), .val (.int p3), .val (.int (fMax (1 : Int32) (p1 &&& (2147483647 : Int32)))), .val (.int (p3 &&& (3 : Int32))), .val (.int (1 : Int32)), .val (.ref ob)] [(.int (1 : Int32)), (.int (1 : Int32))])) (fun _ k => XS.iload X3.here hx rfl (hb hby at_60) rfl k) ?_
    have hc62 : (1 : Int32) = (1 : Int32) := rfl
    refine go (B := T3.setTop (mkF m 65 #[.val (.int p1), .val (.int p2), .val (.int p3), .val (.int (fMax (1 : Int32) (p1 &&& (2147483647 : Int32)))), .val (.int (p3 &&& (3 : Int32))), .val (.int (1 : Int32)), .val (.ref ob)] [])) (fun _ k => XS.icmpNo X3.here hx rfl (hb hby at_62) rfl (teq hc62).2 k) ?_
    refine go (B := T3.setTop (mkF m 67 #[.val (.int p1), .val (.int p2), .val (.int p3), .val (.int (fMax (1 : Int32) (p1 &&& (2147483647 : Int32)))), .val (.int (p3 &&& (3 : Int32))), .val (.int (1 : Int32)), .val (.ref ob)] [(.ref ob)])) (fun _ k => XS.aload X3.here hx rfl (hb hby at_65) rfl rfl k) ?_
    obtain ⟨cq4, kq4, q4a, q4b, q4c⟩ := isOf hZ e3 E_ob
    obtain ⟨_, _, ⟨T4, L4, k4, n4⟩, -, X4, ⟨Lc4, hQ4, l4, y4, z4⟩, st4⟩ := X3.virtualBack hx (y := (⟨"com/example/predicant/predicant/PaginationLimits", "getMaxSize", "()I"⟩ : MethodName)) (z := (⟨"com/example/predicant/predicant/PaginationLimits", "getMaxSize", "()I"⟩ : MethodName)) hown (mvT hZ (hw _ (List.mem_of_getElem? (i := 28) rfl))) (mvT hZ (hw _ (List.mem_of_getElem? (i := 29) rfl))) (notFace_of_selects (args := #[]) (mvT hZ (hw _ (List.mem_of_getElem? (i := 31) rfl)))) (mvT hZ (hw _ (List.mem_of_getElem? (i := 31) rfl))) (mvT hZ (hw _ (List.mem_of_getElem? (i := 30) rfl))) (by decide) (backOf (W := 0) (rm6 l Z a0 hw [] ob (fMax (1 : Int32) (p1 &&& (2147483647 : Int32))) T2.heap n0 Zo G_mMaxSize) hZ (hw _ (List.mem_of_getElem? (i := 32) rfl)) (hw _ (List.mem_of_getElem? (i := 7) rfl)) (by decide) (by decide)) q4a q4c (g := (mkF m 67 #[.val (.int p1), .val (.int p2), .val (.int p3), .val (.int (fMax (1 : Int32) (p1 &&& (2147483647 : Int32)))), .val (.int (p3 &&& (3 : Int32))), .val (.int (1 : Int32)), .val (.ref ob)] [(.ref ob)])) rfl (by rw [hml]; rfl) (Steps.refl _) (argsL := []) (rest := []) (lenOf pd___I rfl) rfl (by show 2 * 0 + _ ≤ _; exact Nat.le_of_eq rfl) (hb hby at_67) (fun _ _ => ⟨rfl, e3, (by decide : 1 + 0 ≤ _), (by decide : 3 + 0 ≤ _)⟩)
    dsimp only [Pt.U, Pt.locs, Pt.cells, Pt.slots] at X4 l4 y4 z4 st4 hQ4
    subst l4 y4 z4
    obtain ⟨rfl, N4q, e4⟩ := hQ4
    have N4 := Fr.app N3 N4q
    refine go (B := T4.setTop (mkF m 70 #[.val (.int p1), .val (.int p2), .val (.int p3), .val (.int (fMax (1 : Int32) (p1 &&& (2147483647 : Int32)))), .val (.int (p3 &&& (3 : Int32))), .val (.int (1 : Int32)), .val (.ref ob)] [(.int (fMax (1 : Int32) (p1 &&& (2147483647 : Int32))))])) (fun _ k => st4.trans k) ?_
    refine go (B := T4.setTop (mkF m 71 #[.val (.int p1), .val (.int p2), .val (.int p3), .val (.int (fMax (1 : Int32) (p1 &&& (2147483647 : Int32)))), .val (.int (p3 &&& (3 : Int32))), .val (.int (1 : Int32)), .val (.ref ob)] [(.int (fMax (1 : Int32) (p1 &&& (2147483647 : Int32)))), (.int (fMax (1 : Int32) (p1 &&& (2147483647 : Int32))))])) (fun _ k => XS.iloadN X4.here hx rfl (hb hby at_70) rfl k) ?_
    have hc71 : (fMax (1 : Int32) (p1 &&& (2147483647 : Int32))) = (fMax (1 : Int32) (p1 &&& (2147483647 : Int32))) := rfl
    refine go (B := T4.setTop (mkF m 74 #[.val (.int p1), .val (.int p2), .val (.int p3), .val (.int (fMax (1 : Int32) (p1 &&& (2147483647 : Int32)))), .val (.int (p3 &&& (3 : Int32))), .val (.int (1 : Int32)), .val (.ref ob)] [])) (fun _ k => XS.icmpNo X4.here hx rfl (hb hby at_71) rfl (teq hc71).2 k) ?_
    refine go (B := T4.setTop (mkF m 76 #[.val (.int p1), .val (.int p2), .val (.int p3), .val (.int (fMax (1 : Int32) (p1 &&& (2147483647 : Int32)))), .val (.int (p3 &&& (3 : Int32))), .val (.int (1 : Int32)), .val (.ref ob)] [(.ref ob)])) (fun _ k => XS.aload X4.here hx rfl (hb hby at_74) rfl rfl k) ?_
    obtain ⟨cq5, kq5, q5a, q5b, q5c⟩ := isOf hZ e4 E_ob
    obtain ⟨_, _, ⟨T5, L5, k5, n5⟩, -, X5, ⟨Lc5, hQ5, l5, y5, z5⟩, st5⟩ := X4.virtualBack hx (y := (⟨"com/example/predicant/predicant/PaginationLimits", "getMaxLength", "()I"⟩ : MethodName)) (z := (⟨"com/example/predicant/predicant/PaginationLimits", "getMaxLength", "()I"⟩ : MethodName)) hown (mvT hZ (hw _ (List.mem_of_getElem? (i := 33) rfl))) (mvT hZ (hw _ (List.mem_of_getElem? (i := 34) rfl))) (notFace_of_selects (args := #[]) (mvT hZ (hw _ (List.mem_of_getElem? (i := 36) rfl)))) (mvT hZ (hw _ (List.mem_of_getElem? (i := 36) rfl))) (mvT hZ (hw _ (List.mem_of_getElem? (i := 35) rfl))) (by decide) (backOf (W := 0) (rm7 l Z a0 hw [] ob (64 : Int32) T2.heap n0 Zo G_mMaxLength) hZ (hw _ (List.mem_of_getElem? (i := 37) rfl)) (hw _ (List.mem_of_getElem? (i := 7) rfl)) (by decide) (by decide)) q5a q5c (g := (mkF m 76 #[.val (.int p1), .val (.int p2), .val (.int p3), .val (.int (fMax (1 : Int32) (p1 &&& (2147483647 : Int32)))), .val (.int (p3 &&& (3 : Int32))), .val (.int (1 : Int32)), .val (.ref ob)] [(.ref ob)])) rfl (by rw [hml]; rfl) (Steps.refl _) (argsL := []) (rest := []) (lenOf pd___I rfl) rfl (by show 2 * 0 + _ ≤ _; exact Nat.le_of_eq rfl) (hb hby at_76) (fun _ _ => ⟨rfl, e4, (by decide : 1 + 0 ≤ _), (by decide : 3 + 0 ≤ _)⟩)
    dsimp only [Pt.U, Pt.locs, Pt.cells, Pt.slots] at X5 l5 y5 z5 st5 hQ5
    subst l5 y5 z5
    obtain ⟨rfl, N5q, e5⟩ := hQ5
    have N5 := Fr.app N4 N5q
    refine go (B := T5.setTop (mkF m 79 #[.val (.int p1), .val (.int p2), .val (.int p3), .val (.int (fMax (1 : Int32) (p1 &&& (2147483647 : Int32)))), .val (.int (p3 &&& (3 : Int32))), .val (.int (1 : Int32)), .val (.ref ob)] [(.int (64 : Int32))])) (fun _ k => st5.trans k) ?_
    refine go (B := T5.setTop (mkF m 81 #[.val (.int p1), .val (.int p2), .val (.int p3), .val (.int (fMax (1 : Int32) (p1 &&& (2147483647 : Int32)))), .val (.int (p3 &&& (3 : Int32))), .val (.int (1 : Int32)), .val (.ref ob)] [(.int (64 : Int32)), (.int (64 : Int32))])) (fun _ k => XS.bipush X5.here hx rfl (hb hby at_79) k) ?_
    have hc81 : (64 : Int32) = (64 : Int32) := rfl
    refine go (B := T5.setTop (mkF m 84 #[.val (.int p1), .val (.int p2), .val (.int p3), .val (.int (fMax (1 : Int32) (p1 &&& (2147483647 : Int32)))), .val (.int (p3 &&& (3 : Int32))), .val (.int (1 : Int32)), .val (.ref ob)] [])) (fun _ k => XS.icmpNo X5.here hx rfl (hb hby at_81) rfl (teq hc81).2 k) ?_
    refine go (B := T5.setTop (mkF m 85 #[.val (.int p1), .val (.int p2), .val (.int p3), .val (.int (fMax (1 : Int32) (p1 &&& (2147483647 : Int32)))), .val (.int (p3 &&& (3 : Int32))), .val (.int (1 : Int32)), .val (.ref ob)] [(.int (1 : Int32))])) (fun _ k => XS.iconst X5.here hx rfl (hb hby at_84) k) ?_
    refine go (B := T5.setTop (mkF m 89 #[.val (.int p1), .val (.int p2), .val (.int p3), .val (.int (fMax (1 : Int32) (p1 &&& (2147483647 : Int32)))), .val (.int (p3 &&& (3 : Int32))), .val (.int (1 : Int32)), .val (.ref ob)] [(.int (1 : Int32))])) (fun _ k => XS.goto X5.here hx rfl (pc0 := 85) (pc' := 89) rfl (hb hby at_85) (by decide) (by decide) k) ?_
    refine goRetN X5 hx (t := .boolean) Bd.returns (by simp) hlk (hb hby at_89) ?_ (by decide) (by decide)
    rw [e5]
    exact ⟨rfl, N5⟩
  · refine go (B := T1.setTop (mkF m 25 #[.val (.int p1), .val (.int p2), .val (.int p3), .val (.int (fMax (1 : Int32) (p1 &&& (2147483647 : Int32)))), .val (.int (p3 &&& (3 : Int32))), .unset, .unset] [])) (fun _ k => XS.ifYes X1.here hx rfl (pc0 := 16) (pc' := 25) rfl (hb hby at_16) rfl ((if0 _ _).trans (feq hc16).2) (by decide) (by decide) k) ?_
    refine go (B := T1.setTop (mkF m 27 #[.val (.int p1), .val (.int p2), .val (.int p3), .val (.int (fMax (1 : Int32) (p1 &&& (2147483647 : Int32)))), .val (.int (p3 &&& (3 : Int32))), .unset, .unset] [(.int (p3 &&& (3 : Int32)))])) (fun _ k => XS.iload X1.here hx rfl (hb hby at_25) rfl k) ?_
    refine go (B := T1.setTop (mkF m 28 #[.val (.int p1), .val (.int p2), .val (.int p3), .val (.int (fMax (1 : Int32) (p1 &&& (2147483647 : Int32)))), .val (.int (p3 &&& (3 : Int32))), .unset, .unset] [(.int (1 : Int32)), (.int (p3 &&& (3 : Int32)))])) (fun _ k => XS.iconst X1.here hx rfl (hb hby at_27) k) ?_
    by_cases hc28 : (p3 &&& (3 : Int32)) = (1 : Int32)
    · refine go (B := T1.setTop (mkF m 31 #[.val (.int p1), .val (.int p2), .val (.int p3), .val (.int (fMax (1 : Int32) (p1 &&& (2147483647 : Int32)))), .val (.int (p3 &&& (3 : Int32))), .unset, .unset] [])) (fun _ k => XS.icmpNo X1.here hx rfl (hb hby at_28) rfl (teq hc28).2 k) ?_
      refine go (B := T1.setTop (mkF m 32 #[.val (.int p1), .val (.int p2), .val (.int p3), .val (.int (fMax (1 : Int32) (p1 &&& (2147483647 : Int32)))), .val (.int (p3 &&& (3 : Int32))), .unset, .unset] [(.int (fMax (1 : Int32) (p1 &&& (2147483647 : Int32))))])) (fun _ k => XS.iloadN X1.here hx rfl (hb hby at_31) rfl k) ?_
      refine go (B := T1.setTop (mkF m 34 #[.val (.int p1), .val (.int p2), .val (.int p3), .val (.int (fMax (1 : Int32) (p1 &&& (2147483647 : Int32)))), .val (.int (p3 &&& (3 : Int32))), .val (.int (fMax (1 : Int32) (p1 &&& (2147483647 : Int32)))), .unset] [])) (fun _ k => XS.istore X1.here hx rfl (hb hby at_32) rfl (l' := #[.val (.int p1), .val (.int p2), .val (.int p3), .val (.int (fMax (1 : Int32) (p1 &&& (2147483647 : Int32)))), .val (.int (p3 &&& (3 : Int32))), .val (.int (fMax (1 : Int32) (p1 &&& (2147483647 : Int32)))), .unset]) rfl k) ?_
      refine go (B := T1.setTop (mkF m 47 #[.val (.int p1), .val (.int p2), .val (.int p3), .val (.int (fMax (1 : Int32) (p1 &&& (2147483647 : Int32)))), .val (.int (p3 &&& (3 : Int32))), .val (.int (fMax (1 : Int32) (p1 &&& (2147483647 : Int32)))), .unset] [])) (fun _ k => XS.goto X1.here hx rfl (pc0 := 34) (pc' := 47) rfl (hb hby at_34) (by decide) (by decide) k) ?_
      refine go (B := T1.setTop (mkF m 49 #[.val (.int p1), .val (.int p2), .val (.int p3), .val (.int (fMax (1 : Int32) (p1 &&& (2147483647 : Int32)))), .val (.int (p3 &&& (3 : Int32))), .val (.int (fMax (1 : Int32) (p1 &&& (2147483647 : Int32)))), .unset] [(.int (fMax (1 : Int32) (p1 &&& (2147483647 : Int32))))])) (fun _ k => XS.iload X1.here hx rfl (hb hby at_47) rfl k) ?_
      refine go (B := T1.setTop (mkF m 50 #[.val (.int p1), .val (.int p2), .val (.int p3), .val (.int (fMax (1 : Int32) (p1 &&& (2147483647 : Int32)))), .val (.int (p3 &&& (3 : Int32))), .val (.int (fMax (1 : Int32) (p1 &&& (2147483647 : Int32)))), .unset] [(.int (fMax (1 : Int32) (p1 &&& (2147483647 : Int32)))), (.int (fMax (1 : Int32) (p1 &&& (2147483647 : Int32))))])) (fun _ k => XS.iloadN X1.here hx rfl (hb hby at_49) rfl k) ?_
      have bm : 1 ≤ ((fMax (1 : Int32) (p1 &&& (2147483647 : Int32)))).toInt := m_pos p1
      have bd : 1 ≤ ((fMax (1 : Int32) (p1 &&& (2147483647 : Int32)))).toInt ∧ ((fMax (1 : Int32) (p1 &&& (2147483647 : Int32)))).toInt ≤ ((fMax (1 : Int32) (p1 &&& (2147483647 : Int32)))).toInt := ⟨bm, Int.le_refl _⟩
      obtain ⟨_, _, ⟨T6, L6, k6, n6⟩, -, X6, ⟨Lc6, hQ6, l6, y6, z6⟩, st6⟩ := Jvm.LawKit.callS X1 hx (y := (⟨"com/example/predicant/predicant/PaginationLimits", "of", "(II)Lcom/example/predicant/predicant/PaginationLimits;"⟩ : MethodName)) hown (mvT hZ (hw _ (List.mem_of_getElem? (i := 5) rfl))) (mvT hZ (hw _ (List.mem_of_getElem? (i := 6) rfl))) (mvT hZ (hw _ (List.mem_of_getElem? (i := 7) rfl))) (mvT hZ (hw _ (List.mem_of_getElem? (i := 8) rfl))) (by decide) (backOf (W := 0) (rm2 l Z a0 hw [] (fMax (1 : Int32) (p1 &&& (2147483647 : Int32))) (fMax (1 : Int32) (p1 &&& (2147483647 : Int32))) h0 n0 Z0 bm bd.1 bd.2) hZ (hw _ (List.mem_of_getElem? (i := 8) rfl)) (hw _ (List.mem_of_getElem? (i := 7) rfl)) (by decide) (by decide)) (g := (mkF m 50 #[.val (.int p1), .val (.int p2), .val (.int p3), .val (.int (fMax (1 : Int32) (p1 &&& (2147483647 : Int32)))), .val (.int (p3 &&& (3 : Int32))), .val (.int (fMax (1 : Int32) (p1 &&& (2147483647 : Int32)))), .unset] [(.int (fMax (1 : Int32) (p1 &&& (2147483647 : Int32)))), (.int (fMax (1 : Int32) (p1 &&& (2147483647 : Int32))))])) rfl (by rw [hml]; rfl) (argsL := [(.int (fMax (1 : Int32) (p1 &&& (2147483647 : Int32)))), (.int (fMax (1 : Int32) (p1 &&& (2147483647 : Int32))))]) (rest := []) (lenOf pd__II_Lcom_example_predicant_predicant_PaginationLimits_ rfl) rfl (by show 2 * 0 + _ ≤ _; exact Nat.le_of_eq rfl) (hb hby at_50) (fun _ _ => ⟨rfl, e1, (by decide : 0 + 1 ≤ _), (by decide : 0 + 3 ≤ _)⟩)
      dsimp only [Pt.U, Pt.locs, Pt.cells, Pt.slots] at X6 l6 y6 z6 st6 hQ6
      subst l6 y6 z6
      obtain ⟨ob, rfl, N6q, Zo, E_ob, G_mDefaultSize, G_mMaxSize, G_mMaxLength⟩ := hQ6
      have N6 := Fr.app N1 N6q
      refine go (B := T6.setTop (mkF m 53 #[.val (.int p1), .val (.int p2), .val (.int p3), .val (.int (fMax (1 : Int32) (p1 &&& (2147483647 : Int32)))), .val (.int (p3 &&& (3 : Int32))), .val (.int (fMax (1 : Int32) (p1 &&& (2147483647 : Int32)))), .unset] [(.ref ob)])) (fun _ k => st6 _ k) ?_
      refine go (B := T6.setTop (mkF m 55 #[.val (.int p1), .val (.int p2), .val (.int p3), .val (.int (fMax (1 : Int32) (p1 &&& (2147483647 : Int32)))), .val (.int (p3 &&& (3 : Int32))), .val (.int (fMax (1 : Int32) (p1 &&& (2147483647 : Int32)))), .val (.ref ob)] [])) (fun _ k => XS.astore X6.here hx rfl (hb hby at_53) rfl rfl (l' := #[.val (.int p1), .val (.int p2), .val (.int p3), .val (.int (fMax (1 : Int32) (p1 &&& (2147483647 : Int32)))), .val (.int (p3 &&& (3 : Int32))), .val (.int (fMax (1 : Int32) (p1 &&& (2147483647 : Int32)))), .val (.ref ob)]) rfl k) ?_
      refine go (B := T6.setTop (mkF m 57 #[.val (.int p1), .val (.int p2), .val (.int p3), .val (.int (fMax (1 : Int32) (p1 &&& (2147483647 : Int32)))), .val (.int (p3 &&& (3 : Int32))), .val (.int (fMax (1 : Int32) (p1 &&& (2147483647 : Int32)))), .val (.ref ob)] [(.ref ob)])) (fun _ k => XS.aload X6.here hx rfl (hb hby at_55) rfl rfl k) ?_
      obtain ⟨cq7, kq7, q7a, q7b, q7c⟩ := isOf hZ rfl E_ob
      obtain ⟨_, _, ⟨T7, L7, k7, n7⟩, -, X7, ⟨Lc7, hQ7, l7, y7, z7⟩, st7⟩ := X6.virtualBack hx (y := (⟨"com/example/predicant/predicant/PaginationLimits", "getDefaultSize", "()I"⟩ : MethodName)) (z := (⟨"com/example/predicant/predicant/PaginationLimits", "getDefaultSize", "()I"⟩ : MethodName)) hown (mvT hZ (hw _ (List.mem_of_getElem? (i := 23) rfl))) (mvT hZ (hw _ (List.mem_of_getElem? (i := 24) rfl))) (notFace_of_selects (args := #[]) (mvT hZ (hw _ (List.mem_of_getElem? (i := 26) rfl)))) (mvT hZ (hw _ (List.mem_of_getElem? (i := 26) rfl))) (mvT hZ (hw _ (List.mem_of_getElem? (i := 25) rfl))) (by decide) (backOf (W := 0) (rm5 l Z a0 hw [] ob (fMax (1 : Int32) (p1 &&& (2147483647 : Int32))) T6.heap n0 Zo G_mDefaultSize) hZ (hw _ (List.mem_of_getElem? (i := 27) rfl)) (hw _ (List.mem_of_getElem? (i := 7) rfl)) (by decide) (by decide)) q7a q7c (g := (mkF m 57 #[.val (.int p1), .val (.int p2), .val (.int p3), .val (.int (fMax (1 : Int32) (p1 &&& (2147483647 : Int32)))), .val (.int (p3 &&& (3 : Int32))), .val (.int (fMax (1 : Int32) (p1 &&& (2147483647 : Int32)))), .val (.ref ob)] [(.ref ob)])) rfl (by rw [hml]; rfl) (Steps.refl _) (argsL := []) (rest := []) (lenOf pd___I rfl) rfl (by show 2 * 0 + _ ≤ _; exact Nat.le_of_eq rfl) (hb hby at_57) (fun _ _ => ⟨rfl, rfl, (by decide : 1 + 0 ≤ _), (by decide : 3 + 0 ≤ _)⟩)
      dsimp only [Pt.U, Pt.locs, Pt.cells, Pt.slots] at X7 l7 y7 z7 st7 hQ7
      subst l7 y7 z7
      obtain ⟨rfl, N7q, e7⟩ := hQ7
      have N7 := Fr.app N6 N7q
      refine go (B := T7.setTop (mkF m 60 #[.val (.int p1), .val (.int p2), .val (.int p3), .val (.int (fMax (1 : Int32) (p1 &&& (2147483647 : Int32)))), .val (.int (p3 &&& (3 : Int32))), .val (.int (fMax (1 : Int32) (p1 &&& (2147483647 : Int32)))), .val (.ref ob)] [(.int (fMax (1 : Int32) (p1 &&& (2147483647 : Int32))))])) (fun _ k => st7.trans k) ?_
      refine go (B := T7.setTop (mkF m 62 #[.val (.int p1), .val (.int p2), .val (.int p3), .val (.int (fMax (1 : Int32) (p1 &&& (2147483647 : Int32)))), .val (.int (p3 &&& (3 : Int32))), .val (.int (fMax (1 : Int32) (p1 &&& (2147483647 : Int32)))), .val (.ref ob)] [(.int (fMax (1 : Int32) (p1 &&& (2147483647 : Int32)))), (.int (fMax (1 : Int32) (p1 &&& (2147483647 : Int32))))])) (fun _ k => XS.iload X7.here hx rfl (hb hby at_60) rfl k) ?_
      have hc62 : (fMax (1 : Int32) (p1 &&& (2147483647 : Int32))) = (fMax (1 : Int32) (p1 &&& (2147483647 : Int32))) := rfl
      refine go (B := T7.setTop (mkF m 65 #[.val (.int p1), .val (.int p2), .val (.int p3), .val (.int (fMax (1 : Int32) (p1 &&& (2147483647 : Int32)))), .val (.int (p3 &&& (3 : Int32))), .val (.int (fMax (1 : Int32) (p1 &&& (2147483647 : Int32)))), .val (.ref ob)] [])) (fun _ k => XS.icmpNo X7.here hx rfl (hb hby at_62) rfl (teq hc62).2 k) ?_
      refine go (B := T7.setTop (mkF m 67 #[.val (.int p1), .val (.int p2), .val (.int p3), .val (.int (fMax (1 : Int32) (p1 &&& (2147483647 : Int32)))), .val (.int (p3 &&& (3 : Int32))), .val (.int (fMax (1 : Int32) (p1 &&& (2147483647 : Int32)))), .val (.ref ob)] [(.ref ob)])) (fun _ k => XS.aload X7.here hx rfl (hb hby at_65) rfl rfl k) ?_
      obtain ⟨cq8, kq8, q8a, q8b, q8c⟩ := isOf hZ e7 E_ob
      obtain ⟨_, _, ⟨T8, L8, k8, n8⟩, -, X8, ⟨Lc8, hQ8, l8, y8, z8⟩, st8⟩ := X7.virtualBack hx (y := (⟨"com/example/predicant/predicant/PaginationLimits", "getMaxSize", "()I"⟩ : MethodName)) (z := (⟨"com/example/predicant/predicant/PaginationLimits", "getMaxSize", "()I"⟩ : MethodName)) hown (mvT hZ (hw _ (List.mem_of_getElem? (i := 28) rfl))) (mvT hZ (hw _ (List.mem_of_getElem? (i := 29) rfl))) (notFace_of_selects (args := #[]) (mvT hZ (hw _ (List.mem_of_getElem? (i := 31) rfl)))) (mvT hZ (hw _ (List.mem_of_getElem? (i := 31) rfl))) (mvT hZ (hw _ (List.mem_of_getElem? (i := 30) rfl))) (by decide) (backOf (W := 0) (rm6 l Z a0 hw [] ob (fMax (1 : Int32) (p1 &&& (2147483647 : Int32))) T6.heap n0 Zo G_mMaxSize) hZ (hw _ (List.mem_of_getElem? (i := 32) rfl)) (hw _ (List.mem_of_getElem? (i := 7) rfl)) (by decide) (by decide)) q8a q8c (g := (mkF m 67 #[.val (.int p1), .val (.int p2), .val (.int p3), .val (.int (fMax (1 : Int32) (p1 &&& (2147483647 : Int32)))), .val (.int (p3 &&& (3 : Int32))), .val (.int (fMax (1 : Int32) (p1 &&& (2147483647 : Int32)))), .val (.ref ob)] [(.ref ob)])) rfl (by rw [hml]; rfl) (Steps.refl _) (argsL := []) (rest := []) (lenOf pd___I rfl) rfl (by show 2 * 0 + _ ≤ _; exact Nat.le_of_eq rfl) (hb hby at_67) (fun _ _ => ⟨rfl, e7, (by decide : 1 + 0 ≤ _), (by decide : 3 + 0 ≤ _)⟩)
      dsimp only [Pt.U, Pt.locs, Pt.cells, Pt.slots] at X8 l8 y8 z8 st8 hQ8
      subst l8 y8 z8
      obtain ⟨rfl, N8q, e8⟩ := hQ8
      have N8 := Fr.app N7 N8q
      refine go (B := T8.setTop (mkF m 70 #[.val (.int p1), .val (.int p2), .val (.int p3), .val (.int (fMax (1 : Int32) (p1 &&& (2147483647 : Int32)))), .val (.int (p3 &&& (3 : Int32))), .val (.int (fMax (1 : Int32) (p1 &&& (2147483647 : Int32)))), .val (.ref ob)] [(.int (fMax (1 : Int32) (p1 &&& (2147483647 : Int32))))])) (fun _ k => st8.trans k) ?_
      refine go (B := T8.setTop (mkF m 71 #[.val (.int p1), .val (.int p2), .val (.int p3), .val (.int (fMax (1 : Int32) (p1 &&& (2147483647 : Int32)))), .val (.int (p3 &&& (3 : Int32))), .val (.int (fMax (1 : Int32) (p1 &&& (2147483647 : Int32)))), .val (.ref ob)] [(.int (fMax (1 : Int32) (p1 &&& (2147483647 : Int32)))), (.int (fMax (1 : Int32) (p1 &&& (2147483647 : Int32))))])) (fun _ k => XS.iloadN X8.here hx rfl (hb hby at_70) rfl k) ?_
      have hc71 : (fMax (1 : Int32) (p1 &&& (2147483647 : Int32))) = (fMax (1 : Int32) (p1 &&& (2147483647 : Int32))) := rfl
      refine go (B := T8.setTop (mkF m 74 #[.val (.int p1), .val (.int p2), .val (.int p3), .val (.int (fMax (1 : Int32) (p1 &&& (2147483647 : Int32)))), .val (.int (p3 &&& (3 : Int32))), .val (.int (fMax (1 : Int32) (p1 &&& (2147483647 : Int32)))), .val (.ref ob)] [])) (fun _ k => XS.icmpNo X8.here hx rfl (hb hby at_71) rfl (teq hc71).2 k) ?_
      refine go (B := T8.setTop (mkF m 76 #[.val (.int p1), .val (.int p2), .val (.int p3), .val (.int (fMax (1 : Int32) (p1 &&& (2147483647 : Int32)))), .val (.int (p3 &&& (3 : Int32))), .val (.int (fMax (1 : Int32) (p1 &&& (2147483647 : Int32)))), .val (.ref ob)] [(.ref ob)])) (fun _ k => XS.aload X8.here hx rfl (hb hby at_74) rfl rfl k) ?_
      obtain ⟨cq9, kq9, q9a, q9b, q9c⟩ := isOf hZ e8 E_ob
      obtain ⟨_, _, ⟨T9, L9, k9, n9⟩, -, X9, ⟨Lc9, hQ9, l9, y9, z9⟩, st9⟩ := X8.virtualBack hx (y := (⟨"com/example/predicant/predicant/PaginationLimits", "getMaxLength", "()I"⟩ : MethodName)) (z := (⟨"com/example/predicant/predicant/PaginationLimits", "getMaxLength", "()I"⟩ : MethodName)) hown (mvT hZ (hw _ (List.mem_of_getElem? (i := 33) rfl))) (mvT hZ (hw _ (List.mem_of_getElem? (i := 34) rfl))) (notFace_of_selects (args := #[]) (mvT hZ (hw _ (List.mem_of_getElem? (i := 36) rfl)))) (mvT hZ (hw _ (List.mem_of_getElem? (i := 36) rfl))) (mvT hZ (hw _ (List.mem_of_getElem? (i := 35) rfl))) (by decide) (backOf (W := 0) (rm7 l Z a0 hw [] ob (64 : Int32) T6.heap n0 Zo G_mMaxLength) hZ (hw _ (List.mem_of_getElem? (i := 37) rfl)) (hw _ (List.mem_of_getElem? (i := 7) rfl)) (by decide) (by decide)) q9a q9c (g := (mkF m 76 #[.val (.int p1), .val (.int p2), .val (.int p3), .val (.int (fMax (1 : Int32) (p1 &&& (2147483647 : Int32)))), .val (.int (p3 &&& (3 : Int32))), .val (.int (fMax (1 : Int32) (p1 &&& (2147483647 : Int32)))), .val (.ref ob)] [(.ref ob)])) rfl (by rw [hml]; rfl) (Steps.refl _) (argsL := []) (rest := []) (lenOf pd___I rfl) rfl (by show 2 * 0 + _ ≤ _; exact Nat.le_of_eq rfl) (hb hby at_76) (fun _ _ => ⟨rfl, e8, (by decide : 1 + 0 ≤ _), (by decide : 3 + 0 ≤ _)⟩)
      dsimp only [Pt.U, Pt.locs, Pt.cells, Pt.slots] at X9 l9 y9 z9 st9 hQ9
      subst l9 y9 z9
      obtain ⟨rfl, N9q, e9⟩ := hQ9
      have N9 := Fr.app N8 N9q
      refine go (B := T9.setTop (mkF m 79 #[.val (.int p1), .val (.int p2), .val (.int p3), .val (.int (fMax (1 : Int32) (p1 &&& (2147483647 : Int32)))), .val (.int (p3 &&& (3 : Int32))), .val (.int (fMax (1 : Int32) (p1 &&& (2147483647 : Int32)))), .val (.ref ob)] [(.int (64 : Int32))])) (fun _ k => st9.trans k) ?_
      refine go (B := T9.setTop (mkF m 81 #[.val (.int p1), .val (.int p2), .val (.int p3), .val (.int (fMax (1 : Int32) (p1 &&& (2147483647 : Int32)))), .val (.int (p3 &&& (3 : Int32))), .val (.int (fMax (1 : Int32) (p1 &&& (2147483647 : Int32)))), .val (.ref ob)] [(.int (64 : Int32)), (.int (64 : Int32))])) (fun _ k => XS.bipush X9.here hx rfl (hb hby at_79) k) ?_
      have hc81 : (64 : Int32) = (64 : Int32) := rfl
      refine go (B := T9.setTop (mkF m 84 #[.val (.int p1), .val (.int p2), .val (.int p3), .val (.int (fMax (1 : Int32) (p1 &&& (2147483647 : Int32)))), .val (.int (p3 &&& (3 : Int32))), .val (.int (fMax (1 : Int32) (p1 &&& (2147483647 : Int32)))), .val (.ref ob)] [])) (fun _ k => XS.icmpNo X9.here hx rfl (hb hby at_81) rfl (teq hc81).2 k) ?_
      refine go (B := T9.setTop (mkF m 85 #[.val (.int p1), .val (.int p2), .val (.int p3), .val (.int (fMax (1 : Int32) (p1 &&& (2147483647 : Int32)))), .val (.int (p3 &&& (3 : Int32))), .val (.int (fMax (1 : Int32) (p1 &&& (2147483647 : Int32)))), .val (.ref ob)] [(.int (1 : Int32))])) (fun _ k => XS.iconst X9.here hx rfl (hb hby at_84) k) ?_
      refine go (B := T9.setTop (mkF m 89 #[.val (.int p1), .val (.int p2), .val (.int p3), .val (.int (fMax (1 : Int32) (p1 &&& (2147483647 : Int32)))), .val (.int (p3 &&& (3 : Int32))), .val (.int (fMax (1 : Int32) (p1 &&& (2147483647 : Int32)))), .val (.ref ob)] [(.int (1 : Int32))])) (fun _ k => XS.goto X9.here hx rfl (pc0 := 85) (pc' := 89) rfl (hb hby at_85) (by decide) (by decide) k) ?_
      refine goRetN X9 hx (t := .boolean) Bd.returns (by simp) hlk (hb hby at_89) ?_ (by decide) (by decide)
      rw [e9]
      exact ⟨rfl, N9⟩
    · refine go (B := T1.setTop (mkF m 37 #[.val (.int p1), .val (.int p2), .val (.int p3), .val (.int (fMax (1 : Int32) (p1 &&& (2147483647 : Int32)))), .val (.int (p3 &&& (3 : Int32))), .unset, .unset] [])) (fun _ k => XS.icmpYes X1.here hx rfl (pc0 := 28) (pc' := 37) rfl (hb hby at_28) rfl (feq hc28).2 (by decide) (by decide) k) ?_
      refine go (B := T1.setTop (mkF m 38 #[.val (.int p1), .val (.int p2), .val (.int p3), .val (.int (fMax (1 : Int32) (p1 &&& (2147483647 : Int32)))), .val (.int (p3 &&& (3 : Int32))), .unset, .unset] [(.int (1 : Int32))])) (fun _ k => XS.iconst X1.here hx rfl (hb hby at_37) k) ?_
      refine go (B := T1.setTop (mkF m 39 #[.val (.int p1), .val (.int p2), .val (.int p3), .val (.int (fMax (1 : Int32) (p1 &&& (2147483647 : Int32)))), .val (.int (p3 &&& (3 : Int32))), .unset, .unset] [(.int p2), (.int (1 : Int32))])) (fun _ k => XS.iloadN X1.here hx rfl (hb hby at_38) rfl k) ?_
      refine go (B := T1.setTop (mkF m 41 #[.val (.int p1), .val (.int p2), .val (.int p3), .val (.int (fMax (1 : Int32) (p1 &&& (2147483647 : Int32)))), .val (.int (p3 &&& (3 : Int32))), .unset, .unset] [(.int (2147483647 : Int32)), (.int p2), (.int (1 : Int32))])) (fun _ k => X1.ldcInt hx hown (mvT hZ (hw _ (List.mem_of_getElem? (i := 0) rfl))) (g := (mkF m 39 #[.val (.int p1), .val (.int p2), .val (.int p3), .val (.int (fMax (1 : Int32) (p1 &&& (2147483647 : Int32)))), .val (.int (p3 &&& (3 : Int32))), .unset, .unset] [(.int p2), (.int (1 : Int32))])) rfl (hb hby at_39) _ k) ?_
      refine go (B := T1.setTop (mkF m 42 #[.val (.int p1), .val (.int p2), .val (.int p3), .val (.int (fMax (1 : Int32) (p1 &&& (2147483647 : Int32)))), .val (.int (p3 &&& (3 : Int32))), .unset, .unset] [(.int (p2 &&& (2147483647 : Int32))), (.int (1 : Int32))])) (fun _ k => XS.iand X1.here hx rfl (hb hby at_41) rfl k) ?_
      refine go (B := T1.setTop (mkF m 43 #[.val (.int p1), .val (.int p2), .val (.int p3), .val (.int (fMax (1 : Int32) (p1 &&& (2147483647 : Int32)))), .val (.int (p3 &&& (3 : Int32))), .unset, .unset] [(.int (fMax (1 : Int32) (p1 &&& (2147483647 : Int32)))), (.int (p2 &&& (2147483647 : Int32))), (.int (1 : Int32))])) (fun _ k => XS.iloadN X1.here hx rfl (hb hby at_42) rfl k) ?_
      refine go (B := T1.setTop (mkF m 44 #[.val (.int p1), .val (.int p2), .val (.int p3), .val (.int (fMax (1 : Int32) (p1 &&& (2147483647 : Int32)))), .val (.int (p3 &&& (3 : Int32))), .unset, .unset] [(.int ((p2 &&& (2147483647 : Int32)) % (fMax (1 : Int32) (p1 &&& (2147483647 : Int32))))), (.int (1 : Int32))])) (fun _ k => iremM X1 hx rfl (hb hby at_43) rfl (fun q => by have := m_pos p1; rw [q] at this; exact absurd this (by decide)) k) ?_
      refine go (B := T1.setTop (mkF m 45 #[.val (.int p1), .val (.int p2), .val (.int p3), .val (.int (fMax (1 : Int32) (p1 &&& (2147483647 : Int32)))), .val (.int (p3 &&& (3 : Int32))), .unset, .unset] [(.int ((1 : Int32) + ((p2 &&& (2147483647 : Int32)) % (fMax (1 : Int32) (p1 &&& (2147483647 : Int32))))))])) (fun _ k => XS.iadd X1.here hx rfl (hb hby at_44) rfl k) ?_
      refine go (B := T1.setTop (mkF m 47 #[.val (.int p1), .val (.int p2), .val (.int p3), .val (.int (fMax (1 : Int32) (p1 &&& (2147483647 : Int32)))), .val (.int (p3 &&& (3 : Int32))), .val (.int ((1 : Int32) + ((p2 &&& (2147483647 : Int32)) % (fMax (1 : Int32) (p1 &&& (2147483647 : Int32)))))), .unset] [])) (fun _ k => XS.istore X1.here hx rfl (hb hby at_45) rfl (l' := #[.val (.int p1), .val (.int p2), .val (.int p3), .val (.int (fMax (1 : Int32) (p1 &&& (2147483647 : Int32)))), .val (.int (p3 &&& (3 : Int32))), .val (.int ((1 : Int32) + ((p2 &&& (2147483647 : Int32)) % (fMax (1 : Int32) (p1 &&& (2147483647 : Int32)))))), .unset]) rfl k) ?_
      refine go (B := T1.setTop (mkF m 49 #[.val (.int p1), .val (.int p2), .val (.int p3), .val (.int (fMax (1 : Int32) (p1 &&& (2147483647 : Int32)))), .val (.int (p3 &&& (3 : Int32))), .val (.int ((1 : Int32) + ((p2 &&& (2147483647 : Int32)) % (fMax (1 : Int32) (p1 &&& (2147483647 : Int32)))))), .unset] [(.int ((1 : Int32) + ((p2 &&& (2147483647 : Int32)) % (fMax (1 : Int32) (p1 &&& (2147483647 : Int32))))))])) (fun _ k => XS.iload X1.here hx rfl (hb hby at_47) rfl k) ?_
      refine go (B := T1.setTop (mkF m 50 #[.val (.int p1), .val (.int p2), .val (.int p3), .val (.int (fMax (1 : Int32) (p1 &&& (2147483647 : Int32)))), .val (.int (p3 &&& (3 : Int32))), .val (.int ((1 : Int32) + ((p2 &&& (2147483647 : Int32)) % (fMax (1 : Int32) (p1 &&& (2147483647 : Int32)))))), .unset] [(.int (fMax (1 : Int32) (p1 &&& (2147483647 : Int32)))), (.int ((1 : Int32) + ((p2 &&& (2147483647 : Int32)) % (fMax (1 : Int32) (p1 &&& (2147483647 : Int32))))))])) (fun _ k => XS.iloadN X1.here hx rfl (hb hby at_49) rfl k) ?_
      have bm : 1 ≤ ((fMax (1 : Int32) (p1 &&& (2147483647 : Int32)))).toInt := m_pos p1
      have bd : 1 ≤ (((1 : Int32) + ((p2 &&& (2147483647 : Int32)) % (fMax (1 : Int32) (p1 &&& (2147483647 : Int32)))))).toInt ∧ (((1 : Int32) + ((p2 &&& (2147483647 : Int32)) % (fMax (1 : Int32) (p1 &&& (2147483647 : Int32)))))).toInt ≤ ((fMax (1 : Int32) (p1 &&& (2147483647 : Int32)))).toInt := d_in p2 _ bm
      obtain ⟨_, _, ⟨T10, L10, k10, n10⟩, -, X10, ⟨Lc10, hQ10, l10, y10, z10⟩, st10⟩ := Jvm.LawKit.callS X1 hx (y := (⟨"com/example/predicant/predicant/PaginationLimits", "of", "(II)Lcom/example/predicant/predicant/PaginationLimits;"⟩ : MethodName)) hown (mvT hZ (hw _ (List.mem_of_getElem? (i := 5) rfl))) (mvT hZ (hw _ (List.mem_of_getElem? (i := 6) rfl))) (mvT hZ (hw _ (List.mem_of_getElem? (i := 7) rfl))) (mvT hZ (hw _ (List.mem_of_getElem? (i := 8) rfl))) (by decide) (backOf (W := 0) (rm2 l Z a0 hw [] ((1 : Int32) + ((p2 &&& (2147483647 : Int32)) % (fMax (1 : Int32) (p1 &&& (2147483647 : Int32))))) (fMax (1 : Int32) (p1 &&& (2147483647 : Int32))) h0 n0 Z0 bm bd.1 bd.2) hZ (hw _ (List.mem_of_getElem? (i := 8) rfl)) (hw _ (List.mem_of_getElem? (i := 7) rfl)) (by decide) (by decide)) (g := (mkF m 50 #[.val (.int p1), .val (.int p2), .val (.int p3), .val (.int (fMax (1 : Int32) (p1 &&& (2147483647 : Int32)))), .val (.int (p3 &&& (3 : Int32))), .val (.int ((1 : Int32) + ((p2 &&& (2147483647 : Int32)) % (fMax (1 : Int32) (p1 &&& (2147483647 : Int32)))))), .unset] [(.int (fMax (1 : Int32) (p1 &&& (2147483647 : Int32)))), (.int ((1 : Int32) + ((p2 &&& (2147483647 : Int32)) % (fMax (1 : Int32) (p1 &&& (2147483647 : Int32))))))])) rfl (by rw [hml]; rfl) (argsL := [(.int ((1 : Int32) + ((p2 &&& (2147483647 : Int32)) % (fMax (1 : Int32) (p1 &&& (2147483647 : Int32)))))), (.int (fMax (1 : Int32) (p1 &&& (2147483647 : Int32))))]) (rest := []) (lenOf pd__II_Lcom_example_predicant_predicant_PaginationLimits_ rfl) rfl (by show 2 * 0 + _ ≤ _; exact Nat.le_of_eq rfl) (hb hby at_50) (fun _ _ => ⟨rfl, e1, (by decide : 0 + 1 ≤ _), (by decide : 0 + 3 ≤ _)⟩)
      dsimp only [Pt.U, Pt.locs, Pt.cells, Pt.slots] at X10 l10 y10 z10 st10 hQ10
      subst l10 y10 z10
      obtain ⟨ob, rfl, N10q, Zo, E_ob, G_mDefaultSize, G_mMaxSize, G_mMaxLength⟩ := hQ10
      have N10 := Fr.app N1 N10q
      refine go (B := T10.setTop (mkF m 53 #[.val (.int p1), .val (.int p2), .val (.int p3), .val (.int (fMax (1 : Int32) (p1 &&& (2147483647 : Int32)))), .val (.int (p3 &&& (3 : Int32))), .val (.int ((1 : Int32) + ((p2 &&& (2147483647 : Int32)) % (fMax (1 : Int32) (p1 &&& (2147483647 : Int32)))))), .unset] [(.ref ob)])) (fun _ k => st10 _ k) ?_
      refine go (B := T10.setTop (mkF m 55 #[.val (.int p1), .val (.int p2), .val (.int p3), .val (.int (fMax (1 : Int32) (p1 &&& (2147483647 : Int32)))), .val (.int (p3 &&& (3 : Int32))), .val (.int ((1 : Int32) + ((p2 &&& (2147483647 : Int32)) % (fMax (1 : Int32) (p1 &&& (2147483647 : Int32)))))), .val (.ref ob)] [])) (fun _ k => XS.astore X10.here hx rfl (hb hby at_53) rfl rfl (l' := #[.val (.int p1), .val (.int p2), .val (.int p3), .val (.int (fMax (1 : Int32) (p1 &&& (2147483647 : Int32)))), .val (.int (p3 &&& (3 : Int32))), .val (.int ((1 : Int32) + ((p2 &&& (2147483647 : Int32)) % (fMax (1 : Int32) (p1 &&& (2147483647 : Int32)))))), .val (.ref ob)]) rfl k) ?_
      refine go (B := T10.setTop (mkF m 57 #[.val (.int p1), .val (.int p2), .val (.int p3), .val (.int (fMax (1 : Int32) (p1 &&& (2147483647 : Int32)))), .val (.int (p3 &&& (3 : Int32))), .val (.int ((1 : Int32) + ((p2 &&& (2147483647 : Int32)) % (fMax (1 : Int32) (p1 &&& (2147483647 : Int32)))))), .val (.ref ob)] [(.ref ob)])) (fun _ k => XS.aload X10.here hx rfl (hb hby at_55) rfl rfl k) ?_
      obtain ⟨cq11, kq11, q11a, q11b, q11c⟩ := isOf hZ rfl E_ob
      obtain ⟨_, _, ⟨T11, L11, k11, n11⟩, -, X11, ⟨Lc11, hQ11, l11, y11, z11⟩, st11⟩ := X10.virtualBack hx (y := (⟨"com/example/predicant/predicant/PaginationLimits", "getDefaultSize", "()I"⟩ : MethodName)) (z := (⟨"com/example/predicant/predicant/PaginationLimits", "getDefaultSize", "()I"⟩ : MethodName)) hown (mvT hZ (hw _ (List.mem_of_getElem? (i := 23) rfl))) (mvT hZ (hw _ (List.mem_of_getElem? (i := 24) rfl))) (notFace_of_selects (args := #[]) (mvT hZ (hw _ (List.mem_of_getElem? (i := 26) rfl)))) (mvT hZ (hw _ (List.mem_of_getElem? (i := 26) rfl))) (mvT hZ (hw _ (List.mem_of_getElem? (i := 25) rfl))) (by decide) (backOf (W := 0) (rm5 l Z a0 hw [] ob ((1 : Int32) + ((p2 &&& (2147483647 : Int32)) % (fMax (1 : Int32) (p1 &&& (2147483647 : Int32))))) T10.heap n0 Zo G_mDefaultSize) hZ (hw _ (List.mem_of_getElem? (i := 27) rfl)) (hw _ (List.mem_of_getElem? (i := 7) rfl)) (by decide) (by decide)) q11a q11c (g := (mkF m 57 #[.val (.int p1), .val (.int p2), .val (.int p3), .val (.int (fMax (1 : Int32) (p1 &&& (2147483647 : Int32)))), .val (.int (p3 &&& (3 : Int32))), .val (.int ((1 : Int32) + ((p2 &&& (2147483647 : Int32)) % (fMax (1 : Int32) (p1 &&& (2147483647 : Int32)))))), .val (.ref ob)] [(.ref ob)])) rfl (by rw [hml]; rfl) (Steps.refl _) (argsL := []) (rest := []) (lenOf pd___I rfl) rfl (by show 2 * 0 + _ ≤ _; exact Nat.le_of_eq rfl) (hb hby at_57) (fun _ _ => ⟨rfl, rfl, (by decide : 1 + 0 ≤ _), (by decide : 3 + 0 ≤ _)⟩)
      dsimp only [Pt.U, Pt.locs, Pt.cells, Pt.slots] at X11 l11 y11 z11 st11 hQ11
      subst l11 y11 z11
      obtain ⟨rfl, N11q, e11⟩ := hQ11
      have N11 := Fr.app N10 N11q
      refine go (B := T11.setTop (mkF m 60 #[.val (.int p1), .val (.int p2), .val (.int p3), .val (.int (fMax (1 : Int32) (p1 &&& (2147483647 : Int32)))), .val (.int (p3 &&& (3 : Int32))), .val (.int ((1 : Int32) + ((p2 &&& (2147483647 : Int32)) % (fMax (1 : Int32) (p1 &&& (2147483647 : Int32)))))), .val (.ref ob)] [(.int ((1 : Int32) + ((p2 &&& (2147483647 : Int32)) % (fMax (1 : Int32) (p1 &&& (2147483647 : Int32))))))])) (fun _ k => st11.trans k) ?_
      refine go (B := T11.setTop (mkF m 62 #[.val (.int p1), .val (.int p2), .val (.int p3), .val (.int (fMax (1 : Int32) (p1 &&& (2147483647 : Int32)))), .val (.int (p3 &&& (3 : Int32))), .val (.int ((1 : Int32) + ((p2 &&& (2147483647 : Int32)) % (fMax (1 : Int32) (p1 &&& (2147483647 : Int32)))))), .val (.ref ob)] [(.int ((1 : Int32) + ((p2 &&& (2147483647 : Int32)) % (fMax (1 : Int32) (p1 &&& (2147483647 : Int32)))))), (.int ((1 : Int32) + ((p2 &&& (2147483647 : Int32)) % (fMax (1 : Int32) (p1 &&& (2147483647 : Int32))))))])) (fun _ k => XS.iload X11.here hx rfl (hb hby at_60) rfl k) ?_
      have hc62 : ((1 : Int32) + ((p2 &&& (2147483647 : Int32)) % (fMax (1 : Int32) (p1 &&& (2147483647 : Int32))))) = ((1 : Int32) + ((p2 &&& (2147483647 : Int32)) % (fMax (1 : Int32) (p1 &&& (2147483647 : Int32))))) := rfl
      refine go (B := T11.setTop (mkF m 65 #[.val (.int p1), .val (.int p2), .val (.int p3), .val (.int (fMax (1 : Int32) (p1 &&& (2147483647 : Int32)))), .val (.int (p3 &&& (3 : Int32))), .val (.int ((1 : Int32) + ((p2 &&& (2147483647 : Int32)) % (fMax (1 : Int32) (p1 &&& (2147483647 : Int32)))))), .val (.ref ob)] [])) (fun _ k => XS.icmpNo X11.here hx rfl (hb hby at_62) rfl (teq hc62).2 k) ?_
      refine go (B := T11.setTop (mkF m 67 #[.val (.int p1), .val (.int p2), .val (.int p3), .val (.int (fMax (1 : Int32) (p1 &&& (2147483647 : Int32)))), .val (.int (p3 &&& (3 : Int32))), .val (.int ((1 : Int32) + ((p2 &&& (2147483647 : Int32)) % (fMax (1 : Int32) (p1 &&& (2147483647 : Int32)))))), .val (.ref ob)] [(.ref ob)])) (fun _ k => XS.aload X11.here hx rfl (hb hby at_65) rfl rfl k) ?_
      obtain ⟨cq12, kq12, q12a, q12b, q12c⟩ := isOf hZ e11 E_ob
      obtain ⟨_, _, ⟨T12, L12, k12, n12⟩, -, X12, ⟨Lc12, hQ12, l12, y12, z12⟩, st12⟩ := X11.virtualBack hx (y := (⟨"com/example/predicant/predicant/PaginationLimits", "getMaxSize", "()I"⟩ : MethodName)) (z := (⟨"com/example/predicant/predicant/PaginationLimits", "getMaxSize", "()I"⟩ : MethodName)) hown (mvT hZ (hw _ (List.mem_of_getElem? (i := 28) rfl))) (mvT hZ (hw _ (List.mem_of_getElem? (i := 29) rfl))) (notFace_of_selects (args := #[]) (mvT hZ (hw _ (List.mem_of_getElem? (i := 31) rfl)))) (mvT hZ (hw _ (List.mem_of_getElem? (i := 31) rfl))) (mvT hZ (hw _ (List.mem_of_getElem? (i := 30) rfl))) (by decide) (backOf (W := 0) (rm6 l Z a0 hw [] ob (fMax (1 : Int32) (p1 &&& (2147483647 : Int32))) T10.heap n0 Zo G_mMaxSize) hZ (hw _ (List.mem_of_getElem? (i := 32) rfl)) (hw _ (List.mem_of_getElem? (i := 7) rfl)) (by decide) (by decide)) q12a q12c (g := (mkF m 67 #[.val (.int p1), .val (.int p2), .val (.int p3), .val (.int (fMax (1 : Int32) (p1 &&& (2147483647 : Int32)))), .val (.int (p3 &&& (3 : Int32))), .val (.int ((1 : Int32) + ((p2 &&& (2147483647 : Int32)) % (fMax (1 : Int32) (p1 &&& (2147483647 : Int32)))))), .val (.ref ob)] [(.ref ob)])) rfl (by rw [hml]; rfl) (Steps.refl _) (argsL := []) (rest := []) (lenOf pd___I rfl) rfl (by show 2 * 0 + _ ≤ _; exact Nat.le_of_eq rfl) (hb hby at_67) (fun _ _ => ⟨rfl, e11, (by decide : 1 + 0 ≤ _), (by decide : 3 + 0 ≤ _)⟩)
      dsimp only [Pt.U, Pt.locs, Pt.cells, Pt.slots] at X12 l12 y12 z12 st12 hQ12
      subst l12 y12 z12
      obtain ⟨rfl, N12q, e12⟩ := hQ12
      have N12 := Fr.app N11 N12q
      refine go (B := T12.setTop (mkF m 70 #[.val (.int p1), .val (.int p2), .val (.int p3), .val (.int (fMax (1 : Int32) (p1 &&& (2147483647 : Int32)))), .val (.int (p3 &&& (3 : Int32))), .val (.int ((1 : Int32) + ((p2 &&& (2147483647 : Int32)) % (fMax (1 : Int32) (p1 &&& (2147483647 : Int32)))))), .val (.ref ob)] [(.int (fMax (1 : Int32) (p1 &&& (2147483647 : Int32))))])) (fun _ k => st12.trans k) ?_
      refine go (B := T12.setTop (mkF m 71 #[.val (.int p1), .val (.int p2), .val (.int p3), .val (.int (fMax (1 : Int32) (p1 &&& (2147483647 : Int32)))), .val (.int (p3 &&& (3 : Int32))), .val (.int ((1 : Int32) + ((p2 &&& (2147483647 : Int32)) % (fMax (1 : Int32) (p1 &&& (2147483647 : Int32)))))), .val (.ref ob)] [(.int (fMax (1 : Int32) (p1 &&& (2147483647 : Int32)))), (.int (fMax (1 : Int32) (p1 &&& (2147483647 : Int32))))])) (fun _ k => XS.iloadN X12.here hx rfl (hb hby at_70) rfl k) ?_
      have hc71 : (fMax (1 : Int32) (p1 &&& (2147483647 : Int32))) = (fMax (1 : Int32) (p1 &&& (2147483647 : Int32))) := rfl
      refine go (B := T12.setTop (mkF m 74 #[.val (.int p1), .val (.int p2), .val (.int p3), .val (.int (fMax (1 : Int32) (p1 &&& (2147483647 : Int32)))), .val (.int (p3 &&& (3 : Int32))), .val (.int ((1 : Int32) + ((p2 &&& (2147483647 : Int32)) % (fMax (1 : Int32) (p1 &&& (2147483647 : Int32)))))), .val (.ref ob)] [])) (fun _ k => XS.icmpNo X12.here hx rfl (hb hby at_71) rfl (teq hc71).2 k) ?_
      refine go (B := T12.setTop (mkF m 76 #[.val (.int p1), .val (.int p2), .val (.int p3), .val (.int (fMax (1 : Int32) (p1 &&& (2147483647 : Int32)))), .val (.int (p3 &&& (3 : Int32))), .val (.int ((1 : Int32) + ((p2 &&& (2147483647 : Int32)) % (fMax (1 : Int32) (p1 &&& (2147483647 : Int32)))))), .val (.ref ob)] [(.ref ob)])) (fun _ k => XS.aload X12.here hx rfl (hb hby at_74) rfl rfl k) ?_
      obtain ⟨cq13, kq13, q13a, q13b, q13c⟩ := isOf hZ e12 E_ob
      obtain ⟨_, _, ⟨T13, L13, k13, n13⟩, -, X13, ⟨Lc13, hQ13, l13, y13, z13⟩, st13⟩ := X12.virtualBack hx (y := (⟨"com/example/predicant/predicant/PaginationLimits", "getMaxLength", "()I"⟩ : MethodName)) (z := (⟨"com/example/predicant/predicant/PaginationLimits", "getMaxLength", "()I"⟩ : MethodName)) hown (mvT hZ (hw _ (List.mem_of_getElem? (i := 33) rfl))) (mvT hZ (hw _ (List.mem_of_getElem? (i := 34) rfl))) (notFace_of_selects (args := #[]) (mvT hZ (hw _ (List.mem_of_getElem? (i := 36) rfl)))) (mvT hZ (hw _ (List.mem_of_getElem? (i := 36) rfl))) (mvT hZ (hw _ (List.mem_of_getElem? (i := 35) rfl))) (by decide) (backOf (W := 0) (rm7 l Z a0 hw [] ob (64 : Int32) T10.heap n0 Zo G_mMaxLength) hZ (hw _ (List.mem_of_getElem? (i := 37) rfl)) (hw _ (List.mem_of_getElem? (i := 7) rfl)) (by decide) (by decide)) q13a q13c (g := (mkF m 76 #[.val (.int p1), .val (.int p2), .val (.int p3), .val (.int (fMax (1 : Int32) (p1 &&& (2147483647 : Int32)))), .val (.int (p3 &&& (3 : Int32))), .val (.int ((1 : Int32) + ((p2 &&& (2147483647 : Int32)) % (fMax (1 : Int32) (p1 &&& (2147483647 : Int32)))))), .val (.ref ob)] [(.ref ob)])) rfl (by rw [hml]; rfl) (Steps.refl _) (argsL := []) (rest := []) (lenOf pd___I rfl) rfl (by show 2 * 0 + _ ≤ _; exact Nat.le_of_eq rfl) (hb hby at_76) (fun _ _ => ⟨rfl, e12, (by decide : 1 + 0 ≤ _), (by decide : 3 + 0 ≤ _)⟩)
      dsimp only [Pt.U, Pt.locs, Pt.cells, Pt.slots] at X13 l13 y13 z13 st13 hQ13
      subst l13 y13 z13
      obtain ⟨rfl, N13q, e13⟩ := hQ13
      have N13 := Fr.app N12 N13q
      refine go (B := T13.setTop (mkF m 79 #[.val (.int p1), .val (.int p2), .val (.int p3), .val (.int (fMax (1 : Int32) (p1 &&& (2147483647 : Int32)))), .val (.int (p3 &&& (3 : Int32))), .val (.int ((1 : Int32) + ((p2 &&& (2147483647 : Int32)) % (fMax (1 : Int32) (p1 &&& (2147483647 : Int32)))))), .val (.ref ob)] [(.int (64 : Int32))])) (fun _ k => st13.trans k) ?_
      refine go (B := T13.setTop (mkF m 81 #[.val (.int p1), .val (.int p2), .val (.int p3), .val (.int (fMax (1 : Int32) (p1 &&& (2147483647 : Int32)))), .val (.int (p3 &&& (3 : Int32))), .val (.int ((1 : Int32) + ((p2 &&& (2147483647 : Int32)) % (fMax (1 : Int32) (p1 &&& (2147483647 : Int32)))))), .val (.ref ob)] [(.int (64 : Int32)), (.int (64 : Int32))])) (fun _ k => XS.bipush X13.here hx rfl (hb hby at_79) k) ?_
      have hc81 : (64 : Int32) = (64 : Int32) := rfl
      refine go (B := T13.setTop (mkF m 84 #[.val (.int p1), .val (.int p2), .val (.int p3), .val (.int (fMax (1 : Int32) (p1 &&& (2147483647 : Int32)))), .val (.int (p3 &&& (3 : Int32))), .val (.int ((1 : Int32) + ((p2 &&& (2147483647 : Int32)) % (fMax (1 : Int32) (p1 &&& (2147483647 : Int32)))))), .val (.ref ob)] [])) (fun _ k => XS.icmpNo X13.here hx rfl (hb hby at_81) rfl (teq hc81).2 k) ?_
      refine go (B := T13.setTop (mkF m 85 #[.val (.int p1), .val (.int p2), .val (.int p3), .val (.int (fMax (1 : Int32) (p1 &&& (2147483647 : Int32)))), .val (.int (p3 &&& (3 : Int32))), .val (.int ((1 : Int32) + ((p2 &&& (2147483647 : Int32)) % (fMax (1 : Int32) (p1 &&& (2147483647 : Int32)))))), .val (.ref ob)] [(.int (1 : Int32))])) (fun _ k => XS.iconst X13.here hx rfl (hb hby at_84) k) ?_
      refine go (B := T13.setTop (mkF m 89 #[.val (.int p1), .val (.int p2), .val (.int p3), .val (.int (fMax (1 : Int32) (p1 &&& (2147483647 : Int32)))), .val (.int (p3 &&& (3 : Int32))), .val (.int ((1 : Int32) + ((p2 &&& (2147483647 : Int32)) % (fMax (1 : Int32) (p1 &&& (2147483647 : Int32)))))), .val (.ref ob)] [(.int (1 : Int32))])) (fun _ k => XS.goto X13.here hx rfl (pc0 := 85) (pc' := 89) rfl (hb hby at_85) (by decide) (by decide) k) ?_
      refine goRetN X13 hx (t := .boolean) Bd.returns (by simp) hlk (hb hby at_89) ?_ (by decide) (by decide)
      rw [e13]
      exact ⟨rfl, N13⟩
set_option maxRecDepth 65536 in
set_option maxHeartbeats 40000000 in
theorem comes_1 {Post : Tables → Env → Array Value → State → Outcome → State → Prop} (hpost : ∀ tb e args s v u, (limb_1_1.after args s (.returned v) u = true ∧ limb_1_2.after args s (.returned v) u = true ∧ True) → FrameEnd s (.returned v) u (Jvm.fieldLocs frame_1_writes args s ++ Jvm.arrayLocs frame_1_arrays args s ++ Jvm.staticLocs frame_1_statics s) 16 128 → Post tb e args s (.returned v) u) :
    ArmFor flags0 classFile x code maxLocals ret World_1 tables_1 room_1 Calls_1 rest_1 Pre_1 Post := by
  intro l hfl _ _ p e ha hc hk s m args below hf hA hF happ hP
  obtain ⟨hcalls, hrest, hpre⟩ := hP
  obtain ⟨-, -, -, hnamed, -, -, -, hat⟩ := (Spec.applies_iff hf).mp happ
  obtain ⟨hg, hn⟩ := and_e (Cond.before_iff.mp (show (Jvm.Cond.and given_1 narrow_1).before args s = true from hpre))
  obtain ⟨hcnt, gg0⟩ := and_e hg
  obtain ⟨ga0, gg1⟩ := and_e gg0
  obtain ⟨ga1, gg2⟩ := and_e gg1
  obtain ⟨w0, w1, w2, rfl⟩ : ∃ w0 w1 w2 : Value, args = #[w0, w1, w2] := by
    have hs : args.size = 3 := by simpa [Cond.value, given_1] using hcnt
    obtain ⟨L⟩ := args
    match L, hs with
    | [w0, w1, w2], _ => exact ⟨w0, w1, w2, rfl⟩
  have hw := fun d (hd : d ∈ tables_1) => atoms_spec (ws := Jvm.Cond.code x code maxLocals ret :: tables_1) hat d (List.mem_cons_of_mem _ hd)
  have hfit : Fit s := fun {y c} hc i hi => by
    obtain ⟨ha, rfl⟩ := Array.getElem?_eq_some_iff.mp hc
    have q := List.all_eq_true.mp ((Array.all_eq_true_iff_forall_mem.mp hF) _ (Array.getElem_mem ha)) i (List.mem_range.mpr hi)
    simpa [Array.getElem?_eq_getElem hi] using q
  obtain ⟨i0, ei0⟩ := is_v ga0
  obtain rfl : w0 = (.int i0) := Option.some.inj ei0
  obtain ⟨i1, ei1⟩ := is_v ga1
  obtain rfl : w1 = (.int i1) := Option.some.inj ei1
  obtain ⟨i2, ei2⟩ := is_v gg2
  obtain rfl : w2 = (.int i2) := Option.some.inj ei2
  obtain ⟨n, o, h1, h2, h3, _, L, rfl, ⟨rfl, N⟩, hq⟩ := rm0 l s _ hw tables_1 i0 i1 i2 s.heap s.heap.size (Nat.le_refl _) p e ha hc hk s m _ below hf ((Spec.applies_iff_loose hf).mp happ).1 ⟨rfl, State.Warmed39.refl s, rfl⟩ trivial
  refine ⟨n, _, h1, h2, h3, hpost _ _ _ _ _ _ ⟨Cond.after_iff.mpr rfl, Cond.after_iff.mpr (eq_i res_at (Term.int_eval (1)) rfl), trivial⟩ ⟨hq.1, hq.2.1, (hq.2.2.sift fun y hy => Or.inr (N y hy)).mono (by decide) (by decide)⟩⟩
theorem main_1_1 : Claimed_1_1 := comes_1 fun _ _ _ _ _ _ h hF => ⟨h.1, hF⟩
theorem main_1_2 : Claimed_1_2 := comes_1 fun _ _ _ _ _ _ h hF => ⟨h.2.1, hF⟩
end Jvm.Pilot.@@N@@
namespace Jvm.Pilot.@@N@@
open Jvm Jvm.ClassFile Sem Op Lib Jvm.Free Jvm.Stand Jvm.Pilot.@@N@@.Jvm.D
/-! MADE BY PROGRAM (witnessworld.py) out of the Statement's table words and the real class files: 10 classes; the members and pool entries that the words name. The judged class is class 1, her method 1. -/
namespace start1
open Jvm.ClassFile
def u (s : String) : CpInfo := .utf8 (stringToUtf16 s)
/-- a pool by its gaps: so many unusable entries, then the entry; so many at the end -/
def gap : Nat → List CpInfo → List CpInfo
  | 0, r => r
  | n + 1, r => .unusable :: gap n r
def poolList (es : List (Nat × CpInfo)) (last : Nat) : List CpInfo := es.foldr (fun e r => gap e.1 (e.2 :: r)) (gap last [])
def pool (es : List (Nat × CpInfo)) (last : Nat) : Array CpInfo := ⟨poolList es last⟩
def fileOf (pool : Array CpInfo) (this : Nat) (attrs : Array Attribute := #[]) (ms : Array MethodInfo := #[]) (fl : Nat := 33) (sup : Nat := 0) (ifs : Array Nat := #[]) (fds : Array FieldInfo := #[]) : ClassFile where
  minorVersion := 0
  majorVersion := 65
  constantPool := pool
  accessFlags := fl
  thisClass := this
  superClass := sup
  interfaces := ifs
  fields := fds
  methods := ms
  attributes := attrs
def plain (name : String) (sup : Option ClassId) : Class where
  name := name
  kind := .ordinary
  loader := none
  accessFlags := 33
  super := sup
  interfaces := #[]
  cf := none
  fields := #[]
  methods := #[]
  instanceTypes := #[]
  staticTypes := #[]
  resolved := #[]
  callSites := []
  init := .initialized
  statics := none
  mirror := none

def pool0 : Array CpInfo := pool [(5, u "<init>"), (0, u "()V"), (1, .class_ 10), (1, u "java/lang/Object")] 113

def k0c0 : Code := { maxStack := 0, maxLocals := 1, code := object_method_1_code, exceptionTable := #[], attributes := #[] }
def k0m0 : Method := { name := "<init>", desc := "()V", sig := { parameters := [], returnType := none }, accessFlags := 1, code := some k0c0 }
/-- java/lang/Object -/
def k0 : Class := { plain "java/lang/Object" none with
  accessFlags := 33
  interfaces := #[]
  cf := some (fileOf pool0 8 #[] #[{ accessFlags := 1, nameIndex := 5, descriptorIndex := 6, attributes := #[] }] 33 0 #[] #[])
  fields := #[]
  methods := #[k0m0]
  instanceTypes := #[]
  staticTypes := #[]
  resolved := Array.replicate 124 none
  statics := none }

def pool1 : Array CpInfo := pool [(2, .class_ 4), (1, u "java/lang/Object"), (0, u "<init>"), (0, u "()V"), (0, .integer 2147483647), (0, .methodref 9 10), (0, .class_ 11), (0, .nameAndType 12 13), (0, u "java/lang/Math"), (0, u "max"), (0, u "(II)I"), (0, .methodref 15 16), (0, .class_ 17), (0, .nameAndType 18 19), (0, u "com/example/predicant/predicant/PaginationLimits"), (0, u "of"), (0, u "(II)Lcom/example/predicant/predicant/PaginationLimits;"), (0, .methodref 15 21), (0, .nameAndType 22 23), (0, u "getDefaultSize"), (0, u "()I"), (0, .methodref 15 25), (0, .nameAndType 26 23), (0, u "getMaxSize"), (0, .methodref 15 28), (0, .nameAndType 29 23), (0, u "getMaxLength"), (0, .class_ 31), (0, u "com/example/predicant/predicant/PaginationLimitsOfPinLaw"), (2, u "law"), (0, u "(III)Z")] 3

def k1m0 : Method := { name := "<init>", desc := "()V", sig := { parameters := [], returnType := none }, accessFlags := 1, code := none }
def k1c1 : Code := { maxStack := 3, maxLocals := 7, code := code, exceptionTable := #[], attributes := #[] }
def k1m1 : Method := { name := "law", desc := "(III)Z", sig := { parameters := [.int, .int, .int], returnType := some .boolean }, accessFlags := 9, code := some k1c1 }
/-- com/example/predicant/predicant/PaginationLimitsOfPinLaw -/
def k1 : Class := { plain "com/example/predicant/predicant/PaginationLimitsOfPinLaw" (some 0) with
  accessFlags := 49
  interfaces := #[]
  cf := some (fileOf pool1 30 #[] #[{ accessFlags := 1, nameIndex := 5, descriptorIndex := 6, attributes := #[] }, { accessFlags := 9, nameIndex := 34, descriptorIndex := 35, attributes := #[] }] 49 2 #[] #[])
  fields := #[]
  methods := #[k1m0, k1m1]
  instanceTypes := #[]
  staticTypes := #[]
  resolved := Array.replicate 39 none
  statics := none }

def pool2 : Array CpInfo := pool [(1, .class_ 2), (0, u "java/lang/Math"), (1, .class_ 6), (1, u "java/lang/Object"), (0, u "<init>"), (0, u "()V"), (89, .class_ 100), (1, u "java/lang/Math$RandomNumberGeneratorHolder"), (71, u "negativeZeroFloatBits"), (0, u "J"), (2, u "negativeZeroDoubleBits"), (21, u "max"), (46, u "$assertionsDisabled"), (0, u "Z"), (88, u "(II)I"), (2, u "twoToTheDoubleScaleDown"), (0, u "D"), (4, u "twoToTheDoubleScaleUp"), (9, u "E"), (3, u "PI"), (2, u "TAU"), (2, u "DEGREES_TO_RADIANS"), (0, u "RADIANS_TO_DEGREES")] 94

def k2m0 : Method := { name := "<init>", desc := "()V", sig := { parameters := [], returnType := none }, accessFlags := 2, code := none }
def k2c1 : Code := { maxStack := 2, maxLocals := 2, code := jdk_29_method_65_code, exceptionTable := #[], attributes := #[] }
def k2m1 : Method := { name := "max", desc := "(II)I", sig := { parameters := [.int, .int], returnType := some .int }, accessFlags := 9, code := some k2c1 }
/-- java/lang/Math -/
def k2 : Class := { plain "java/lang/Math" (some 0) with
  accessFlags := 49
  interfaces := #[]
  cf := some (fileOf pool2 1 #[.nestMembers #[98]] #[{ accessFlags := 2, nameIndex := 7, descriptorIndex := 8, attributes := #[] }, { accessFlags := 9, nameIndex := 198, descriptorIndex := 335, attributes := #[] }] 49 4 #[] #[{ accessFlags := 25, nameIndex := 354, descriptorIndex := 339, attributes := #[] }, { accessFlags := 25, nameIndex := 358, descriptorIndex := 339, attributes := #[] }, { accessFlags := 25, nameIndex := 361, descriptorIndex := 339, attributes := #[] }, { accessFlags := 26, nameIndex := 364, descriptorIndex := 339, attributes := #[] }, { accessFlags := 26, nameIndex := 365, descriptorIndex := 339, attributes := #[] }, { accessFlags := 26, nameIndex := 172, descriptorIndex := 173, attributes := #[] }, { accessFlags := 26, nameIndex := 176, descriptorIndex := 173, attributes := #[] }, { accessFlags := 8, nameIndex := 344, descriptorIndex := 339, attributes := #[] }, { accessFlags := 8, nameIndex := 338, descriptorIndex := 339, attributes := #[] }, { accessFlags := 4120, nameIndex := 245, descriptorIndex := 246, attributes := #[] }])
  fields := #[{ name := "E", type := .double, accessFlags := 25, slot := 0, constantValue := 0 }, { name := "PI", type := .double, accessFlags := 25, slot := 1, constantValue := 0 }, { name := "TAU", type := .double, accessFlags := 25, slot := 2, constantValue := 0 }, { name := "DEGREES_TO_RADIANS", type := .double, accessFlags := 26, slot := 3, constantValue := 0 }, { name := "RADIANS_TO_DEGREES", type := .double, accessFlags := 26, slot := 4, constantValue := 0 }, { name := "negativeZeroFloatBits", type := .long, accessFlags := 26, slot := 5, constantValue := 0 }, { name := "negativeZeroDoubleBits", type := .long, accessFlags := 26, slot := 6, constantValue := 0 }, { name := "twoToTheDoubleScaleUp", type := .double, accessFlags := 8, slot := 7, constantValue := 0 }, { name := "twoToTheDoubleScaleDown", type := .double, accessFlags := 8, slot := 8, constantValue := 0 }, { name := "$assertionsDisabled", type := .boolean, accessFlags := 4120, slot := 9, constantValue := 0 }]
  methods := #[k2m0, k2m1]
  instanceTypes := #[]
  staticTypes := #[.double, .double, .double, .double, .double, .long, .long, .double, .double, .boolean]
  resolved := Array.replicate 460 none
  statics := none }

def pool3 : Array CpInfo := pool [(1, .methodref 2 3), (0, .class_ 4), (0, .nameAndType 5 6), (0, u "java/lang/Object"), (0, u "<init>"), (0, u "()V"), (13, .fieldref 21 22), (0, .class_ 23), (0, .nameAndType 24 25), (0, u "com/example/predicant/predicant/PaginationLimits"), (0, u "mDefaultSize"), (0, u "I"), (0, .fieldref 21 27), (0, .nameAndType 28 25), (0, u "mMaxSize"), (0, .fieldref 21 30), (0, .nameAndType 31 25), (0, u "mMaxLength"), (2, u "DEFAULTS"), (0, u "Lcom/example/predicant/predicant/PaginationLimits;"), (0, .methodref 21 37), (0, .nameAndType 5 38), (0, u "(III)V"), (3, u "DEFAULT_DEFAULT_SIZE"), (2, u "DEFAULT_MAX_SIZE"), (1, u "DEFAULT_MAX_LENGTH"), (6, u "of"), (0, u "(II)Lcom/example/predicant/predicant/PaginationLimits;"), (2, u "getDefaultSize"), (0, u "()I"), (0, u "getMaxSize"), (0, u "getMaxLength")] 26

def k3c0 : Code := { maxStack := 4, maxLocals := 4, code := prog_33_method_1_code, exceptionTable := #[], attributes := #[] }
def k3m0 : Method := { name := "<init>", desc := "(III)V", sig := { parameters := [.int, .int, .int], returnType := none }, accessFlags := 2, code := some k3c0 }
def k3c1 : Code := { maxStack := 5, maxLocals := 2, code := prog_33_method_3_code, exceptionTable := #[], attributes := #[] }
def k3m1 : Method := { name := "of", desc := "(II)Lcom/example/predicant/predicant/PaginationLimits;", sig := { parameters := [.int, .int], returnType := some (.object "com/example/predicant/predicant/PaginationLimits") }, accessFlags := 9, code := some k3c1 }
def k3c2 : Code := { maxStack := 1, maxLocals := 1, code := prog_33_method_5_code, exceptionTable := #[], attributes := #[] }
def k3m2 : Method := { name := "getDefaultSize", desc := "()I", sig := { parameters := [], returnType := some .int }, accessFlags := 1, code := some k3c2 }
def k3c3 : Code := { maxStack := 1, maxLocals := 1, code := prog_33_method_6_code, exceptionTable := #[], attributes := #[] }
def k3m3 : Method := { name := "getMaxSize", desc := "()I", sig := { parameters := [], returnType := some .int }, accessFlags := 1, code := some k3c3 }
def k3c4 : Code := { maxStack := 1, maxLocals := 1, code := prog_33_method_7_code, exceptionTable := #[], attributes := #[] }
def k3m4 : Method := { name := "getMaxLength", desc := "()I", sig := { parameters := [], returnType := some .int }, accessFlags := 1, code := some k3c4 }
/-- com/example/predicant/predicant/PaginationLimits -/
def k3 : Class := { plain "com/example/predicant/predicant/PaginationLimits" (some 0) with
  accessFlags := 49
  interfaces := #[]
  cf := some (fileOf pool3 21 #[] #[{ accessFlags := 2, nameIndex := 5, descriptorIndex := 38, attributes := #[] }, { accessFlags := 9, nameIndex := 54, descriptorIndex := 55, attributes := #[] }, { accessFlags := 1, nameIndex := 58, descriptorIndex := 59, attributes := #[] }, { accessFlags := 1, nameIndex := 60, descriptorIndex := 59, attributes := #[] }, { accessFlags := 1, nameIndex := 61, descriptorIndex := 59, attributes := #[] }] 49 2 #[] #[{ accessFlags := 25, nameIndex := 42, descriptorIndex := 25, attributes := #[] }, { accessFlags := 25, nameIndex := 45, descriptorIndex := 25, attributes := #[] }, { accessFlags := 25, nameIndex := 47, descriptorIndex := 25, attributes := #[] }, { accessFlags := 26, nameIndex := 34, descriptorIndex := 35, attributes := #[] }, { accessFlags := 18, nameIndex := 24, descriptorIndex := 25, attributes := #[] }, { accessFlags := 18, nameIndex := 28, descriptorIndex := 25, attributes := #[] }, { accessFlags := 18, nameIndex := 31, descriptorIndex := 25, attributes := #[] }])
  fields := #[{ name := "DEFAULT_DEFAULT_SIZE", type := .int, accessFlags := 25, slot := 0, constantValue := 0 }, { name := "DEFAULT_MAX_SIZE", type := .int, accessFlags := 25, slot := 1, constantValue := 0 }, { name := "DEFAULT_MAX_LENGTH", type := .int, accessFlags := 25, slot := 2, constantValue := 0 }, { name := "DEFAULTS", type := (.object "com/example/predicant/predicant/PaginationLimits"), accessFlags := 26, slot := 3, constantValue := 0 }, { name := "mDefaultSize", type := .int, accessFlags := 18, slot := 0, constantValue := 0 }, { name := "mMaxSize", type := .int, accessFlags := 18, slot := 1, constantValue := 0 }, { name := "mMaxLength", type := .int, accessFlags := 18, slot := 2, constantValue := 0 }]
  methods := #[k3m0, k3m1, k3m2, k3m3, k3m4]
  instanceTypes := #[.int, .int, .int]
  staticTypes := #[.int, .int, .int, (.object "com/example/predicant/predicant/PaginationLimits")]
  resolved := Array.replicate 88 none
  statics := none }

def pool4 : Array CpInfo := pool [(1, u "java/lang/Cloneable"), (0, .class_ 1), (0, u "java/lang/Object"), (0, .class_ 3)] 3

/-- java/lang/Cloneable -/
def k4 : Class := { plain "java/lang/Cloneable" (some 0) with
  accessFlags := 1537
  interfaces := #[]
  cf := some (fileOf pool4 2 #[] #[] 1537 4 #[] #[])
  fields := #[]
  methods := #[]
  instanceTypes := #[]
  staticTypes := #[]
  resolved := Array.replicate 8 none
  statics := none }

def pool5 : Array CpInfo := pool [(1, u "java/io/Serializable"), (0, .class_ 1), (0, u "java/lang/Object"), (0, .class_ 3)] 3

/-- java/io/Serializable -/
def k5 : Class := { plain "java/io/Serializable" (some 0) with
  accessFlags := 1537
  interfaces := #[]
  cf := some (fileOf pool5 2 #[] #[] 1537 4 #[] #[])
  fields := #[]
  methods := #[]
  instanceTypes := #[]
  staticTypes := #[]
  resolved := Array.replicate 8 none
  statics := none }

/-- the primitive byte -/
def k6 : Class := { plain "byte" none with kind := .primitive 'B', accessFlags := 0x411 }
/-- [B -/
def k7 : Class := { plain "[B" (some 0) with kind := .array 6 .byte, interfaces := #[4, 5], accessFlags := 1041 }

/-- the primitive int -/
def k8 : Class := { plain "int" none with kind := .primitive 'I', accessFlags := 0x411 }
/-- [I -/
def k9 : Class := { plain "[I" (some 0) with kind := .array 8 .int, interfaces := #[4, 5], accessFlags := 1041 }

def heap : Heap := #[]
def classes : Array Class := #[k0, k1, k2, k3, k4, k5, k6, k7, k8, k9]
def interned : List (Array UInt16 × Addr) := []
def slotsUsed : Nat := 0
def theMethod : MethodId := ⟨1, 1⟩
def args0 : Array Value := #[.int 5, .int 7, .int 2]
def aboutOver (below : List Frame) : State where
  vm := { classes := classes, interned := interned.toArray }
  heap := heap
  slotsUsed := slotsUsed
  threads := #[{ frames := .invoking theMethod args0 :: below }]
def below0 : List Frame := [.native { method := ⟨0, 0⟩, args := #[] }]
def about1 : State := aboutOver below0
def p0 : Program := .bare "" "" ""
def e0 : Env := launch0.env 0 0 0
theorem w_frames : about1.frames = Frame.invoking theMethod args0 :: below0 := rfl
set_option maxRecDepth 65536 in
theorem w_args : argsFit about1.vm theMethod args0 = true := by decide +kernel
set_option maxRecDepth 65536 in
theorem w_heap : heapFits about1 = true := by decide +kernel
set_option maxRecDepth 65536 in
theorem w_runnable : about1.curStatus? = some .runnable := by decide +kernel
set_option maxRecDepth 65536 in
theorem w_alone : about1.alone = true := by decide +kernel
set_option maxRecDepth 65536 in
theorem w_named : about1.methodNamed? x = some theMethod := by decide +kernel
set_option maxRecDepth 65536 in
theorem w_hears : about1.hears theMethod below0 = true := by decide +kernel
set_option maxRecDepth 65536 in
theorem w_ripe : about1.ripe theMethod args0 below0 = true := by decide +kernel
theorem w_running : about1.status = .running := rfl
set_option maxRecDepth 65536 in
theorem w_room : about1.hasRoom e0.platform room_1 = true :=
  launch0.hasRoom_least _ room_1 (by decide +kernel) (by decide +kernel) (by decide +kernel) (by decide +kernel) (by decide +kernel) (by decide +kernel)
theorem allAtoms_all (ts : List Jvm.Cond) (a : Array Jvm.Value) (st : Jvm.State) : (allAtoms ts).before a st = ts.all (fun c => c.before a st) := by
  induction ts with
  | nil => rfl
  | cons c t ih =>
    show (Jvm.Cond.and c (allAtoms t)).before a st = _
    rw [Jvm.Cond.before_and, ih, List.all_cons]
def words1 : List Jvm.Cond := Jvm.Cond.code x code maxLocals ret :: tables_1
/-- a 'code' word, met by the world's own term for the bytes: nothing is compared byte by byte -/
theorem code_word {y : MethodName} {bytes : ByteArray} {mx : Nat} {rt : Option FieldType} {a : Array Value} {s : State} {m : MethodId} {meth : Method} {c : Code} (h1 : s.methodNamed? y = some m) (h2 : s.vm.method? m = some meth) (h3 : meth.code = some c) (h4 : c.code = bytes)
    (h5 : (c.maxLocals == mx && c.exceptionTable.isEmpty && decide (c.maxStack ≤ mostOperands) && decide (meth.sig.returnType = rt) && !meth.locks && decide (parseMethodDescriptor y.desc = some meth.sig)) = true) : (Jvm.Cond.code y bytes mx rt).before a s = true := by
  simp only [Bool.and_eq_true, beq_iff_eq, Bool.not_eq_true', decide_eq_true_eq] at h5
  obtain ⟨⟨⟨⟨⟨g1, g2⟩, g3⟩, g4⟩, g5⟩, g6⟩ := h5
  simp [Cond.before, Cond.holds, Cond.value, h1, h2, h3, h4, g1, g2, g3, g4, g5, g6]
def isCode : Jvm.Cond → Bool
  | .code _ _ _ _ => true
  | _ => false
theorem all_split {L : List Jvm.Cond} {P : Jvm.Cond → Bool} (h1 : L.all (fun c => isCode c || P c) = true) (h2 : ∀ c ∈ L.filter isCode, P c = true) : L.all P = true := by
  refine List.all_eq_true.mpr fun c hc => ?_
  have h := List.all_eq_true.mp h1 c hc
  rcases Bool.eq_false_or_eq_true (isCode c) with hi | hi
  · exact h2 c (List.mem_filter.mpr ⟨hc, hi⟩)
  · simpa [hi] using h
set_option maxRecDepth 65536 in
theorem w_c0 : (Jvm.Cond.code x code maxLocals ret).before args0 about1 = true := code_word (m := ⟨1, 1⟩) (meth := k1m1) (c := k1c1) (by decide +kernel) rfl rfl rfl (by decide +kernel)
set_option maxRecDepth 65536 in
theorem w_c1 : (Jvm.Cond.code ({ cls := "java/lang/Math", name := "max", desc := "(II)I" } : Jvm.MethodName) jdk_29_method_65_code (2 : Nat) (Option.some Jvm.ClassFile.FieldType.int)).before args0 about1 = true := code_word (m := ⟨2, 1⟩) (meth := k2m1) (c := k2c1) (by decide +kernel) rfl rfl rfl (by decide +kernel)
set_option maxRecDepth 65536 in
theorem w_c2 : (Jvm.Cond.code ({ cls := "com/example/predicant/predicant/PaginationLimits", name := "of", desc := "(II)Lcom/example/predicant/predicant/PaginationLimits;" } : Jvm.MethodName) prog_33_method_3_code (2 : Nat) (Option.some (Jvm.ClassFile.FieldType.object "com/example/predicant/predicant/PaginationLimits"))).before args0 about1 = true := code_word (m := ⟨3, 1⟩) (meth := k3m1) (c := k3c1) (by decide +kernel) rfl rfl rfl (by decide +kernel)
set_option maxRecDepth 65536 in
theorem w_c3 : (Jvm.Cond.code ({ cls := "com/example/predicant/predicant/PaginationLimits", name := "<init>", desc := "(III)V" } : Jvm.MethodName) prog_33_method_1_code (4 : Nat) (Option.none : Option Jvm.ClassFile.FieldType)).before args0 about1 = true := code_word (m := ⟨3, 0⟩) (meth := k3m0) (c := k3c0) (by decide +kernel) rfl rfl rfl (by decide +kernel)
set_option maxRecDepth 65536 in
theorem w_c4 : (Jvm.Cond.code ({ cls := "java/lang/Object", name := "<init>", desc := "()V" } : Jvm.MethodName) object_method_1_code (1 : Nat) (Option.none : Option Jvm.ClassFile.FieldType)).before args0 about1 = true := code_word (m := ⟨0, 0⟩) (meth := k0m0) (c := k0c0) (by decide +kernel) rfl rfl rfl (by decide +kernel)
set_option maxRecDepth 65536 in
theorem w_c5 : (Jvm.Cond.code ({ cls := "com/example/predicant/predicant/PaginationLimits", name := "getDefaultSize", desc := "()I" } : Jvm.MethodName) prog_33_method_5_code (1 : Nat) (Option.some Jvm.ClassFile.FieldType.int)).before args0 about1 = true := code_word (m := ⟨3, 2⟩) (meth := k3m2) (c := k3c2) (by decide +kernel) rfl rfl rfl (by decide +kernel)
set_option maxRecDepth 65536 in
theorem w_c6 : (Jvm.Cond.code ({ cls := "com/example/predicant/predicant/PaginationLimits", name := "getMaxSize", desc := "()I" } : Jvm.MethodName) prog_33_method_6_code (1 : Nat) (Option.some Jvm.ClassFile.FieldType.int)).before args0 about1 = true := code_word (m := ⟨3, 3⟩) (meth := k3m3) (c := k3c3) (by decide +kernel) rfl rfl rfl (by decide +kernel)
set_option maxRecDepth 65536 in
theorem w_c7 : (Jvm.Cond.code ({ cls := "com/example/predicant/predicant/PaginationLimits", name := "getMaxLength", desc := "()I" } : Jvm.MethodName) prog_33_method_7_code (1 : Nat) (Option.some Jvm.ClassFile.FieldType.int)).before args0 about1 = true := code_word (m := ⟨3, 4⟩) (meth := k3m4) (c := k3c4) (by decide +kernel) rfl rfl rfl (by decide +kernel)
def codes1 : List Jvm.Cond := [Jvm.Cond.code x code maxLocals ret, Jvm.Cond.code ({ cls := "java/lang/Math", name := "max", desc := "(II)I" } : Jvm.MethodName) jdk_29_method_65_code (2 : Nat) (Option.some Jvm.ClassFile.FieldType.int), Jvm.Cond.code ({ cls := "com/example/predicant/predicant/PaginationLimits", name := "of", desc := "(II)Lcom/example/predicant/predicant/PaginationLimits;" } : Jvm.MethodName) prog_33_method_3_code (2 : Nat) (Option.some (Jvm.ClassFile.FieldType.object "com/example/predicant/predicant/PaginationLimits")), Jvm.Cond.code ({ cls := "com/example/predicant/predicant/PaginationLimits", name := "<init>", desc := "(III)V" } : Jvm.MethodName) prog_33_method_1_code (4 : Nat) (Option.none : Option Jvm.ClassFile.FieldType), Jvm.Cond.code ({ cls := "java/lang/Object", name := "<init>", desc := "()V" } : Jvm.MethodName) object_method_1_code (1 : Nat) (Option.none : Option Jvm.ClassFile.FieldType), Jvm.Cond.code ({ cls := "com/example/predicant/predicant/PaginationLimits", name := "getDefaultSize", desc := "()I" } : Jvm.MethodName) prog_33_method_5_code (1 : Nat) (Option.some Jvm.ClassFile.FieldType.int), Jvm.Cond.code ({ cls := "com/example/predicant/predicant/PaginationLimits", name := "getMaxSize", desc := "()I" } : Jvm.MethodName) prog_33_method_6_code (1 : Nat) (Option.some Jvm.ClassFile.FieldType.int), Jvm.Cond.code ({ cls := "com/example/predicant/predicant/PaginationLimits", name := "getMaxLength", desc := "()I" } : Jvm.MethodName) prog_33_method_7_code (1 : Nat) (Option.some Jvm.ClassFile.FieldType.int)]
set_option maxRecDepth 65536 in
theorem codes_eq : words1.filter isCode = codes1 := rfl
theorem w_codes : ∀ c ∈ words1.filter isCode, c.before args0 about1 = true := by
  rw [codes_eq]
  intro c hc
  simp only [codes1, List.mem_cons, List.not_mem_nil, or_false] at hc
  rcases hc with rfl | rfl | rfl | rfl | rfl | rfl | rfl | rfl
  · exact w_c0
  · exact w_c1
  · exact w_c2
  · exact w_c3
  · exact w_c4
  · exact w_c5
  · exact w_c6
  · exact w_c7
set_option maxRecDepth 65536 in
theorem w_t1 : (words1.take 24).all (fun c => isCode c || c.before args0 about1) = true := by decide +kernel
set_option maxRecDepth 65536 in
theorem w_t2 : (words1.drop 24).all (fun c => isCode c || c.before args0 about1) = true := by decide +kernel
theorem w_tables : (allAtoms (Jvm.Cond.code x code maxLocals ret :: tables_1)).before args0 about1 = true := by
  rw [allAtoms_all]
  show words1.all (fun c => c.before args0 about1) = true
  refine all_split ?_ w_codes
  rw [← List.take_append_drop 24 words1, List.all_append, w_t1, w_t2]
  rfl
set_option maxRecDepth 65536 in
theorem w_case : (Jvm.Cond.and given_1 narrow_1).before args0 about1 = true := by decide +kernel
theorem w_applies : (headSpec (Jvm.Cond.code x code maxLocals ret :: tables_1) room_1).applies x e0.platform about1 = true :=
  (Spec.applies_iff w_frames).mpr ⟨w_running, w_runnable, w_alone, w_named, w_hears, w_ripe, w_room, w_tables⟩
theorem atStart : AtStart classFile x code maxLocals ret World_1 tables_1 room_1 Calls_1 rest_1 Pre_1 launch0 p0 e0 about1 theMethod args0 below0 :=
  ⟨lists_1, trivial, launch0.admits_env _ _ _, launch0.least_env, fairChoices_fair.cas, fairChoices_fair.clock, w_frames, w_args, w_heap, w_applies, trivial, trivial, w_case⟩
end start1
theorem witness_1 : WitnessClaimed_1 := ⟨start1.p0, start1.e0, start1.about1, start1.theMethod, start1.args0, start1.below0, start1.atStart⟩
end Jvm.Pilot.@@N@@
