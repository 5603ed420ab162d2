import JvmDerived
import JvmDerived.Pilot.@@N@@Statement
import JvmDerived.Pilot.@@N@@Code
set_option linter.unusedVariables false
set_option linter.unusedSimpArgs false
@@BLOCK:NumsL.lean.txt@@
namespace Jvm.Pilot.@@N@@
open Jvm Jvm.ClassFile Sem Op Lib Jvm.Free Jvm.Stand Jvm.LawKit Jvm.RoadKit Bundle Jvm.Pilot.@@N@@.Jvm.D
/-- from the state A the run comes to a return of which Q holds -/
def Go (tb : Tables) (e : Env) (below : List Frame) (s : State) (C S : Nat) (Q : Option Value → Heap → List Loc → Prop) (A : State) : Prop :=
  ∃ s₂ o, Steps tb e below A s₂ ∧ s₂.status = .running ∧ Ended s₂ below o ∧ ∃ v L, o = .returned v ∧ Q v s₂.heap L ∧ FrameEnd s o s₂ L C S
theorem go {tb : Tables} {e : Env} {below : List Frame} {s A B : State} {C S : Nat} {Q : Option Value → Heap → List Loc → Prop} (st : ∀ t, Steps tb e below B t → Steps tb e below A t) (h : Go tb e below s C S Q B) : Go tb e below s C S Q A := by
  obtain ⟨s₂, o, h1, h2⟩ := h
  exact ⟨s₂, o, st _ h1, h2⟩
section Rets
variable {p : Program} {l : Launch} {e : Env} {R : Room} {s : State} {m : MethodId} {args : Array Value} {below : List Frame} {meth : Method} {c : Code} {T : State} {locs : List Loc} {cells slots : Nat} {C S : Nat} {Q : Option Value → Heap → List Loc → Prop} {pc : Nat} {Ls : Array Slot} {rest : List Value}
theorem goRetI (X : Stand p l e R s m args below meth c T locs cells slots) (hx : p.tables.exec = Jvm.exec) {z : Int32} (hret : meth.sig.returnType = some .int) (hlk : meth.locks = false) (hd : decode c.code pc = .ok (.ireturn, 1)) (hQ : Q (some (.int z)) T.heap locs) (hc : cells ≤ C) (hs : slots ≤ S) : Go p.tables e below s C S Q (T.setTop (mkF m pc Ls (.int z :: rest))) := by
  obtain ⟨fs, hr, hrun, hended, hW, hsame⟩ := X.leave (v := some (.int z)) (fun h => by rw [hret] at h; cases h) hlk
  exact ⟨_, _, retOut X hx hret rfl (Or.inl ⟨rfl, Or.inl rfl, z, rfl⟩) hd hr, hrun, hended, _, _, rfl, hQ, ⟨_, rfl⟩, hW, hsame.mono hc hs⟩
theorem goRetN (X : Stand p l e R s m args below meth c T locs cells slots) (hx : p.tables.exec = Jvm.exec) {z : Int32} {t : FieldType} (hret : meth.sig.returnType = some t) (ht : t = .boolean ∨ t = .byte ∨ t = .char ∨ t = .short) (hlk : meth.locks = false) (hd : decode c.code pc = .ok (.ireturn, 1)) (hQ : Q (some (.int (nar t z))) T.heap locs) (hc : cells ≤ C) (hs : slots ≤ S) : Go p.tables e below s C S Q (T.setTop (mkF m pc Ls (.int z :: rest))) := by
  obtain ⟨fs, hr, hrun, hended, hW, hsame⟩ := X.leave (v := some (.int (nar t z))) (fun h => by rw [hret] at h; cases h) hlk
  exact ⟨_, _, retN X hx hret ht hd hr, hrun, hended, _, _, rfl, hQ, ⟨_, rfl⟩, hW, hsame.mono hc hs⟩
theorem goRetL (X : Stand p l e R s m args below meth c T locs cells slots) (hx : p.tables.exec = Jvm.exec) {z : Int64} (hret : meth.sig.returnType = some .long) (hlk : meth.locks = false) (hd : decode c.code pc = .ok (.lreturn, 1)) (hQ : Q (some (.long z)) T.heap locs) (hc : cells ≤ C) (hs : slots ≤ S) : Go p.tables e below s C S Q (T.setTop (mkF m pc Ls (.long z :: rest))) := by
  obtain ⟨fs, hr, hrun, hended, hW, hsame⟩ := X.leave (v := some (.long z)) (fun h => by rw [hret] at h; cases h) hlk
  exact ⟨_, _, retOut X hx hret rfl (Or.inr (Or.inl ⟨rfl, rfl, z, rfl⟩)) hd hr, hrun, hended, _, _, rfl, hQ, ⟨_, rfl⟩, hW, hsame.mono hc hs⟩
theorem goRetR (X : Stand p l e R s m args below meth c T locs cells slots) (hx : p.tables.exec = Jvm.exec) {a : Addr} {t : FieldType} (hret : meth.sig.returnType = some t) (ht : t.isReference = true) (hlk : meth.locks = false) (hd : decode c.code pc = .ok (.areturn, 1)) (hQ : Q (some (.ref a)) T.heap locs) (hc : cells ≤ C) (hs : slots ≤ S) : Go p.tables e below s C S Q (T.setTop (mkF m pc Ls (.ref a :: rest))) := by
  obtain ⟨fs, hr, hrun, hended, hW, hsame⟩ := X.leave (v := some (.ref a)) (fun h => by rw [hret] at h; cases h) hlk
  exact ⟨_, _, retOut X hx hret (by cases t <;> first | rfl | cases ht) (Or.inr (Or.inr (Or.inr (Or.inr ⟨rfl, ht, rfl⟩)))) hd hr, hrun, hended, _, _, rfl, hQ, ⟨_, rfl⟩, hW, hsame.mono hc hs⟩
theorem goRetV (X : Stand p l e R s m args below meth c T locs cells slots) (hx : p.tables.exec = Jvm.exec) (hret : meth.sig.returnType = none) (hlk : meth.locks = false) (hd : decode c.code pc = .ok (.return_, 1)) (hQ : Q none T.heap locs) (hc : cells ≤ C) (hs : slots ≤ S) : Go p.tables e below s C S Q (T.setTop (mkF m pc Ls [])) := by
  obtain ⟨fs, hr, hrun, hended, hW, hsame⟩ := X.leave (v := none) (fun _ => rfl) hlk
  exact ⟨_, _, X.returnOut hx hret hd hr, hrun, hended, _, _, rfl, hQ, ⟨_, rfl⟩, hW, hsame.mono hc hs⟩
end Rets
theorem lc_lt_yes {x y : Int64} (h : x < y) : ifCond.holds .lt (lcmpW x y) = true := by
  have h1 : ¬ y < x := by rw [Int64.lt_iff_toInt_lt] at h ⊢; omega
  have h2 : ¬ x = y := fun q => by subst q; rw [Int64.lt_iff_toInt_lt] at h; omega
  simp [lcmpW, h1, h2]; decide
theorem lc_lt_no {x y : Int64} (h : ¬ x < y) : ifCond.holds .lt (lcmpW x y) = false := by
  by_cases h1 : y < x
  · simp [lcmpW, h1]; decide
  · have h2 : x = y := by rw [← Int64.toInt_inj]; rw [Int64.lt_iff_toInt_lt] at h h1; omega
    simp [lcmpW, h1, h2]; decide
theorem lc_ge_no {x y : Int64} (h : x < y) : ifCond.holds .ge (lcmpW x y) = false := by
  have h1 : ¬ y < x := by rw [Int64.lt_iff_toInt_lt] at h ⊢; omega
  have h2 : ¬ x = y := fun q => by subst q; rw [Int64.lt_iff_toInt_lt] at h; omega
  simp [lcmpW, h1, h2]; decide
theorem lc_ge_yes {x y : Int64} (h : ¬ x < y) : ifCond.holds .ge (lcmpW x y) = true := by
  by_cases h1 : y < x
  · simp [lcmpW, h1]; decide
  · have h2 : x = y := by rw [← Int64.toInt_inj]; rw [Int64.lt_iff_toInt_lt] at h h1; omega
    simp [lcmpW, h1, h2]; decide
theorem lc_gt_yes {x y : Int64} (h : y < x) : ifCond.holds .gt (lcmpW x y) = true := by
  simp [lcmpW, h]; decide
theorem lc_gt_no {x y : Int64} (h : ¬ y < x) : ifCond.holds .gt (lcmpW x y) = false := by
  by_cases h2 : x = y <;> simp [lcmpW, h, h2] <;> decide
theorem lc_le_no {x y : Int64} (h : y < x) : ifCond.holds .le (lcmpW x y) = false := by
  simp [lcmpW, h]; decide
theorem lc_le_yes {x y : Int64} (h : ¬ y < x) : ifCond.holds .le (lcmpW x y) = true := by
  by_cases h2 : x = y <;> simp [lcmpW, h, h2] <;> decide
theorem lc_eq_yes {x y : Int64} (h : x = y) : ifCond.holds .eq (lcmpW x y) = true := by
  subst h; simp [lcmpW]; decide
theorem lc_eq_no {x y : Int64} (h : ¬ x = y) : ifCond.holds .eq (lcmpW x y) = false := by
  by_cases h1 : y < x <;> simp [lcmpW, h, h1] <;> decide
theorem lc_ne_no {x y : Int64} (h : x = y) : ifCond.holds .ne (lcmpW x y) = false := by
  subst h; simp [lcmpW]; decide
theorem lc_ne_yes {x y : Int64} (h : ¬ x = y) : ifCond.holds .ne (lcmpW x y) = true := by
  by_cases h1 : y < x <;> simp [lcmpW, h, h1] <;> decide
section XD
variable {tb : Tables} [Ours tb] {e : Env} {below : List Frame} {T target : State} {m : MethodId} {c : Code} {g : JFrame}
theorem XD.i2d (h : At T m c below) (hx : tb.exec = Jvm.exec) (hg : g.method = m) {x : Int32} {rest : List Value} (hd : decode c.code g.pc = .ok (.i2d, 1)) (hs : g.stack = .int x :: rest)
    (hr : Steps tb e below (T.setTop { g with pc := g.pc + 1, stack := .double (FP.i2d x) :: rest }) target) : Steps tb e below (T.setTop g) target := by
  subst hg
  jvm_step h [h.top, hx, hd, hs]
  exact hr
theorem XD.dloadN (h : At T m c below) (hx : tb.exec = Jvm.exec) (hg : g.method = m) {k : Fin 4} {v : UInt64} (hd : decode c.code g.pc = .ok (.dload_n k, 1)) (hl : g.locals[k.val]? = some (.val (.double v)))
    (hr : Steps tb e below (T.setTop { g with pc := g.pc + 1, stack := .double v :: g.stack }) target) : Steps tb e below (T.setTop g) target := by
  subst hg
  jvm_step h [h.top, hx, hd, hl]
  exact hr
theorem XD.dload (h : At T m c below) (hx : tb.exec = Jvm.exec) (hg : g.method = m) {k : Nat} {v : UInt64} (hd : decode c.code g.pc = .ok (.dload k, 2)) (hl : g.locals[k]? = some (.val (.double v)))
    (hr : Steps tb e below (T.setTop { g with pc := g.pc + 2, stack := .double v :: g.stack }) target) : Steps tb e below (T.setTop g) target := by
  subst hg
  jvm_step h [h.top, hx, hd, hl]
  exact hr
theorem XD.dcmp (h : At T m c below) (hx : tb.exec = Jvm.exec) (hg : g.method = m) {x y : UInt64} {rest : List Value} {o : CmpOp} {z : Int32} (hd : decode c.code g.pc = .ok (.dcmp o, 1)) (hs : g.stack = .double y :: .double x :: rest) (hz : cmpValue (FP.dcmp x y) o = z)
    (hr : Steps tb e below (T.setTop { g with pc := g.pc + 1, stack := .int z :: rest }) target) : Steps tb e below (T.setTop g) target := by
  subst hg hz
  jvm_step h [h.top, hx, hd, hs, dcmp.wp_sem]
  exact hr
end XD
theorem XD.lt {i j : Int} {x y : UInt64} {o : CmpOp} (hx : FP.Core.DInt i x) (hy : FP.Core.DInt j y) (h : i < j) : cmpValue (FP.dcmp x y) o = -1 := by
  rw [show FP.dcmp x y = some (compare i j) from FP.Core.dcmp_int hx hy, show compare i j = .lt from Int.compare_eq_lt.mpr h]; rfl
theorem XD.eq {i j : Int} {x y : UInt64} {o : CmpOp} (hx : FP.Core.DInt i x) (hy : FP.Core.DInt j y) (h : i = j) : cmpValue (FP.dcmp x y) o = 0 := by
  rw [show FP.dcmp x y = some (compare i j) from FP.Core.dcmp_int hx hy, show compare i j = .eq from Int.compare_eq_eq.mpr h]; rfl
theorem XD.gt {i j : Int} {x y : UInt64} {o : CmpOp} (hx : FP.Core.DInt i x) (hy : FP.Core.DInt j y) (h : j < i) : cmpValue (FP.dcmp x y) o = 1 := by
  rw [show FP.dcmp x y = some (compare i j) from FP.Core.dcmp_int hx hy, show compare i j = .gt from Int.compare_eq_gt.mpr h]; rfl
/-- an array of doubles, each a whole number -/
def DArr (Z : State) (h : Heap) (a : Addr) (js : List Int) : Prop := ∃ c : Cell, Arr Z h a c .double ∧ c.slots.size = js.length ∧ ∀ i, i < js.length → ∃ u, c.slots[i]? = some (.double u) ∧ FP.Core.DInt (js.getD i 0) u
def AllD : List Value → List Int → Prop
  | _, [] => True
  | [], _ :: _ => False
  | v :: vs, j :: js => (∃ u, v = .double u ∧ FP.Core.DInt j u) ∧ AllD vs js
theorem AllD.at {d : Value} : ∀ {vs : List Value} {js : List Int}, AllD vs js → ∀ i, i < js.length → ∃ u, vs.getD i d = .double u ∧ FP.Core.DInt (js.getD i 0) u
  | _, [], _, i, hi => absurd hi (Nat.not_lt_zero _)
  | [], _ :: _, h, _, _ => h.elim
  | v :: vs, j :: js, h, 0, _ => by obtain ⟨⟨u, e, d⟩, -⟩ := h; exact ⟨u, e, d⟩
  | v :: vs, j :: js, h, i + 1, hi => AllD.at h.2 i (Nat.lt_of_succ_lt_succ hi)
theorem DArr.of {Z : State} {h : Heap} {a : Addr} {k : ClassId} {n : Int32} {vs : List Value} {js : List Int} (F : Arv Z h a k .double n vs (.double 0)) (hn : n.toNatClampNeg = js.length) (A : AllD vs js) : DArr Z h a js := by
  obtain ⟨c, Ar, -, S, -, H, -⟩ := F
  refine ⟨c, Ar, S.trans hn, fun i hi => ?_⟩
  obtain ⟨u, e, d⟩ := A.at (d := .double 0) i hi
  exact ⟨u, by rw [H i (by rw [S, hn]; exact hi), e], d⟩
theorem clampN {i : Nat} (h : i < 2 ^ 31) : (i.toInt32).toNatClampNeg = i := by
  show (i.toInt32).toInt.toNat = i
  rw [len_toInt h]; rfl
theorem ltN {i j : Nat} (hi : i < 2 ^ 31) (hj : j < 2 ^ 31) : i.toInt32 < j.toInt32 ↔ i < j := by
  rw [Int32.lt_iff_toInt_lt, len_toInt hi, len_toInt hj]; omega
theorem succ32 (i : Nat) : i.toInt32 + (1 : Int32) = (i + 1).toInt32 := Int32.ofNat_succ i
def okF (js : List Int) (r i : Nat) : Int32 := if i < js.length then (if js.getD r 0 < js.getD i 0 then 0 else if i < r ∧ ¬ js.getD i 0 < js.getD r 0 then 0 else 1) else 1
theorem okF_one {js : List Int} {r : Nat} (h1 : ∀ i, i < js.length → js.getD i 0 ≤ js.getD r 0) (h2 : ∀ i, i < r → js.getD i 0 < js.getD r 0) (i : Nat) : ¬ okF js r i = 0 := by
  unfold okF
  by_cases q : i < js.length
  · have := h1 i q
    rw [if_pos q, if_neg (by omega), if_neg fun z => z.2 (h2 i z.1)]; decide
  · rw [if_neg q]; decide
theorem n_in (x : Int32) : 1 ≤ (((x &&& (2147483647 : Int32)) % (5 : Int32)) + (1 : Int32)).toInt ∧ (((x &&& (2147483647 : Int32)) % (5 : Int32)) + (1 : Int32)).toInt ≤ 5 := by
  have e1 : (x &&& (2147483647 : Int32)).toInt = x.toInt % 2 ^ 31 := Jvm.Kit.i32_mask _ _ (k := 31) (by decide) (by decide)
  have c5 : (5 : Int32).toInt = 5 := by decide
  have c1 : (1 : Int32).toInt = 1 := by decide
  have e2 : ((x &&& (2147483647 : Int32)) % (5 : Int32)).toInt = (x &&& (2147483647 : Int32)).toInt % 5 := by rw [Jvm.Kit.i32_rem_nonneg (by omega), c5]
  rw [Jvm.Kit.i32_add] <;> rw [e2, c1] <;> omega
theorem ncl {n : Int32} {k : Nat} (h : n.toInt ≤ (k : Int)) : n.toNatClampNeg ≤ k := by
  show n.toInt.toNat ≤ k
  omega
theorem nneg {n : Int32} (h : 0 ≤ n.toInt) : ¬ n < 0 := fun q => by
  rw [Int32.lt_iff_toInt_lt] at q
  have c0 : (0 : Int32).toInt = 0 := by decide
  omega
theorem pn_com_example_cladestream_cladestream_Particles : plainName "com/example/cladestream/cladestream/Particles" = true := by first | (simp [plainName, overriddenIn]; done) | decide +kernel
theorem ef_rm1 (m : MethodId) (a1 : Addr) : entryFrame m #[(.ref a1)] 3 = mkF m 0 #[.val (.ref a1), .unset, .unset] [] := by first | (simp [entryFrame, mkF, argsToLocals, Value.category]; done) | rfl
def Q1 (Z : State) (a1 : Addr) (js : List Int) (h0 : Heap) (n0 : Nat) (v : Option Value) (h : Heap) (L : List Loc) : Prop := ∃ r : Nat, v = some (.int r.toInt32) ∧ Fr n0 L ∧ h = h0 ∧ r < js.length ∧ (∀ i, i < js.length → js.getD i 0 ≤ js.getD r 0) ∧ (∀ i, i < r → js.getD i 0 < js.getD r 0)
theorem d1_4 : decode prog_13_method_12_code 4 = .ok (.iload_n 2, 1) := by decide +kernel
theorem d1_5 : decode prog_13_method_12_code 5 = .ok (.aload_n 0, 1) := by decide +kernel
theorem d1_6 : decode prog_13_method_12_code 6 = .ok (.arraylength, 1) := by decide +kernel
theorem d1_7 : decode prog_13_method_12_code 7 = .ok (.if_icmp .ge 21, 3) := by decide +kernel
theorem d1_28 : decode prog_13_method_12_code 28 = .ok (.iload_n 1, 1) := by decide +kernel
theorem d1_29 : decode prog_13_method_12_code 29 = .ok (.ireturn, 1) := by decide +kernel
theorem d1_10 : decode prog_13_method_12_code 10 = .ok (.aload_n 0, 1) := by decide +kernel
theorem d1_11 : decode prog_13_method_12_code 11 = .ok (.iload_n 2, 1) := by decide +kernel
theorem d1_12 : decode prog_13_method_12_code 12 = .ok (.daload, 1) := by decide +kernel
theorem d1_13 : decode prog_13_method_12_code 13 = .ok (.aload_n 0, 1) := by decide +kernel
theorem d1_14 : decode prog_13_method_12_code 14 = .ok (.iload_n 1, 1) := by decide +kernel
theorem d1_15 : decode prog_13_method_12_code 15 = .ok (.daload, 1) := by decide +kernel
theorem d1_16 : decode prog_13_method_12_code 16 = .ok (.dcmp .l, 1) := by decide +kernel
theorem d1_17 : decode prog_13_method_12_code 17 = .ok (.ifCond .le 5, 3) := by decide +kernel
theorem d1_22 : decode prog_13_method_12_code 22 = .ok (.iinc 2 1, 3) := by decide +kernel
theorem d1_25 : decode prog_13_method_12_code 25 = .ok (.goto (-21), 3) := by decide +kernel
theorem d1_20 : decode prog_13_method_12_code 20 = .ok (.iload_n 2, 1) := by decide +kernel
theorem d1_21 : decode prog_13_method_12_code 21 = .ok (.istore_n 1, 1) := by decide +kernel
theorem d1_0 : decode prog_13_method_12_code 0 = .ok (.iconst 0, 1) := by decide +kernel
theorem d1_1 : decode prog_13_method_12_code 1 = .ok (.istore_n 1, 1) := by decide +kernel
theorem d1_2 : decode prog_13_method_12_code 2 = .ok (.iconst 1, 1) := by decide +kernel
theorem d1_3 : decode prog_13_method_12_code 3 = .ok (.istore_n 2, 1) := by decide +kernel
set_option maxRecDepth 65536 in
set_option maxHeartbeats 40000000 in
theorem rm1 (l : Launch) (Z : State) (a0 : Array Value) (hw : ∀ d ∈ tables_1, d.before a0 Z = true) (ws : List Jvm.Cond) (a1 : Addr) (js : List Int) (h0 : Heap) (n0 : Nat) (Z0 : n0 ≤ h0.size) (D0 : DArr Z h0 a1 js) (hl : js.length < 2 ^ 31) (hp : 0 < js.length) :
    MetFree l (⟨"com/example/cladestream/cladestream/Particles", "best", "([D)I"⟩ : MethodName) (head1 (Jvm.Cond.code (⟨"com/example/cladestream/cladestream/Particles", "best", "([D)I"⟩ : MethodName) prog_13_method_12_code 3 (some .int) :: ws) ({ frames := 0, cells := 0, slots := 0, locals := 0 } : Room)) (fun a U => a = #[(.ref a1)] ∧ Z.Warmed39 U.vm ∧ U.heap = h0) (fun _ _ _ _ _ => True) (fun _ U o U' => ∃ v L, o = .returned v ∧ Q1 Z a1 js h0 n0 v U'.heap L ∧ FrameEnd U o U' L ({ frames := 0, cells := 0, slots := 0, locals := 0 } : Room).cells ({ frames := 0, cells := 0, slots := 0, locals := 0 } : Room).slots) := by
  refine MetFree.of_bodySF (plainFor_of_name pn_com_example_cladestream_cladestream_Particles) hisR ?_
  intro p e s m args below meth c s₁ Bd hml0 hP hK
  obtain ⟨rfl, hZ, hh⟩ := hP
  have hx := Bd.exec
  have hby := Bd.bytes
  have hml : c.maxLocals = 3 := hml0
  have hown : s.vm.findClass "com/example/cladestream/cladestream/Particles" = some m.cls := findClass_of_methodNamed Bd.named
  have hnm := (name_of_methodNamed Bd.named Bd.method).1
  have hlk := Bd.notSynchronized
  have X0 : Stand p l e ({ frames := 0, cells := 0, slots := 0, locals := 0 } : Room) s m #[(.ref a1)] below meth c s₁ [] 0 0 := Stand.of_body Bd
  have e0 : s₁.heap = h0 := by rw [← hh, Bd.state]; rfl
  have N0 := Fr.nil n0
  show Go p.tables e below s ({ frames := 0, cells := 0, slots := 0, locals := 0 } : Room).cells ({ frames := 0, cells := 0, slots := 0, locals := 0 } : Room).slots (Q1 Z a1 js h0 n0) _
  refine go (fun t k => castTop (ef_rm1 m a1) k) ?_
  obtain ⟨cl, Ar, Sz, El⟩ := D0
  have loop : ∀ k i r : Nat, i + k = js.length → r < i → (∀ j, j < i → js.getD j 0 ≤ js.getD r 0) → (∀ j, j < r → js.getD j 0 < js.getD r 0) → Go p.tables e below s ({ frames := 0, cells := 0, slots := 0, locals := 0 } : Room).cells ({ frames := 0, cells := 0, slots := 0, locals := 0 } : Room).slots (Q1 Z a1 js h0 n0) (s₁.setTop (mkF m 4 #[.val (.ref a1), .val (.int (r.toInt32)), .val (.int (i.toInt32))] [])) := by
    intro k
    induction k with
    | zero =>
      intro i r h1 h2 h3 h4
      have hi2 : i < 2 ^ 31 := by omega
      refine go (B := s₁.setTop (mkF m 5 #[.val (.ref a1), .val (.int (r.toInt32)), .val (.int (i.toInt32))] [(.int (i.toInt32))])) (fun _ k => XS.iloadN X0.here hx rfl (hb hby d1_4) rfl k) ?_
      refine go (B := s₁.setTop (mkF m 6 #[.val (.ref a1), .val (.int (r.toInt32)), .val (.int (i.toInt32))] [(.ref a1), (.int (i.toInt32))])) (fun _ k => XS.aloadN X0.here hx rfl (hb hby d1_5) rfl rfl k) ?_
      refine go (B := s₁.setTop (mkF m 7 #[.val (.ref a1), .val (.int (r.toInt32)), .val (.int (i.toInt32))] [(.int (js.length.toInt32)), (.int (i.toInt32))])) (fun _ k => X0.arraylength hx (by rw [e0]; exact Ar.1) (State.isArrayOf_alike hZ.alike Ar.2.1) (g := (mkF m 6 #[.val (.ref a1), .val (.int (r.toInt32)), .val (.int (i.toInt32))] [(.ref a1), (.int (i.toInt32))])) rfl rfl (hb hby d1_6) _ (by rw [Sz]; exact k)) ?_
      have hc7 : ¬ ((i.toInt32) < (js.length.toInt32)) := (fun q => by rw [ltN hi2 hl] at q; omega)
      refine go (B := s₁.setTop (mkF m 28 #[.val (.ref a1), .val (.int (r.toInt32)), .val (.int (i.toInt32))] [])) (fun _ k => XS.icmpYes X0.here hx rfl (pc0 := 7) (pc' := 28) rfl (hb hby d1_7) rfl (flt hc7).2.1 (by decide) (by decide) k) ?_
      refine go (B := s₁.setTop (mkF m 29 #[.val (.ref a1), .val (.int (r.toInt32)), .val (.int (i.toInt32))] [(.int (r.toInt32))])) (fun _ k => XS.iloadN X0.here hx rfl (hb hby d1_28) rfl k) ?_
      refine goRetI X0 hx Bd.returns hlk (hb hby d1_29) ?_ (by decide) (by decide)
      rw [e0]
      exact ⟨r, rfl, N0, rfl, by omega, fun j hj => h3 j (by omega), h4⟩
    | succ k ih =>
      intro i r h1 h2 h3 h4
      have hi2 : i < 2 ^ 31 := by omega
      have hi : i < js.length := by omega
      have hr : r < js.length := by omega
      refine go (B := s₁.setTop (mkF m 5 #[.val (.ref a1), .val (.int (r.toInt32)), .val (.int (i.toInt32))] [(.int (i.toInt32))])) (fun _ k => XS.iloadN X0.here hx rfl (hb hby d1_4) rfl k) ?_
      refine go (B := s₁.setTop (mkF m 6 #[.val (.ref a1), .val (.int (r.toInt32)), .val (.int (i.toInt32))] [(.ref a1), (.int (i.toInt32))])) (fun _ k => XS.aloadN X0.here hx rfl (hb hby d1_5) rfl rfl k) ?_
      refine go (B := s₁.setTop (mkF m 7 #[.val (.ref a1), .val (.int (r.toInt32)), .val (.int (i.toInt32))] [(.int (js.length.toInt32)), (.int (i.toInt32))])) (fun _ k => X0.arraylength hx (by rw [e0]; exact Ar.1) (State.isArrayOf_alike hZ.alike Ar.2.1) (g := (mkF m 6 #[.val (.ref a1), .val (.int (r.toInt32)), .val (.int (i.toInt32))] [(.ref a1), (.int (i.toInt32))])) rfl rfl (hb hby d1_6) _ (by rw [Sz]; exact k)) ?_
      have hc7 : (i.toInt32) < (js.length.toInt32) := (ltN hi2 hl).mpr hi
      refine go (B := s₁.setTop (mkF m 10 #[.val (.ref a1), .val (.int (r.toInt32)), .val (.int (i.toInt32))] [])) (fun _ k => XS.icmpNo X0.here hx rfl (hb hby d1_7) rfl (tlt hc7).2.1 k) ?_
      refine go (B := s₁.setTop (mkF m 11 #[.val (.ref a1), .val (.int (r.toInt32)), .val (.int (i.toInt32))] [(.ref a1)])) (fun _ k => XS.aloadN X0.here hx rfl (hb hby d1_10) rfl rfl k) ?_
      refine go (B := s₁.setTop (mkF m 12 #[.val (.ref a1), .val (.int (r.toInt32)), .val (.int (i.toInt32))] [(.int (i.toInt32)), (.ref a1)])) (fun _ k => XS.iloadN X0.here hx rfl (hb hby d1_11) rfl k) ?_
      obtain ⟨u1, hu1, du1⟩ := El i hi
      refine go (B := s₁.setTop (mkF m 13 #[.val (.ref a1), .val (.int (r.toInt32)), .val (.int (i.toInt32))] [(.double u1)])) (fun _ k => X0.daload hx (by rw [e0]; exact Ar.1) (State.isArrayOf_alike hZ.alike Ar.2.1) Ar.2.2 (by rw [Sz]; exact idx_in hi hl) (by rw [clampN (Nat.lt_trans hi hl)]; exact hu1) (g := (mkF m 12 #[.val (.ref a1), .val (.int (r.toInt32)), .val (.int (i.toInt32))] [(.int (i.toInt32)), (.ref a1)])) rfl rfl (hb hby d1_12) _ k) ?_
      refine go (B := s₁.setTop (mkF m 14 #[.val (.ref a1), .val (.int (r.toInt32)), .val (.int (i.toInt32))] [(.ref a1), (.double u1)])) (fun _ k => XS.aloadN X0.here hx rfl (hb hby d1_13) rfl rfl k) ?_
      refine go (B := s₁.setTop (mkF m 15 #[.val (.ref a1), .val (.int (r.toInt32)), .val (.int (i.toInt32))] [(.int (r.toInt32)), (.ref a1), (.double u1)])) (fun _ k => XS.iloadN X0.here hx rfl (hb hby d1_14) rfl k) ?_
      obtain ⟨u2, hu2, du2⟩ := El r hr
      refine go (B := s₁.setTop (mkF m 16 #[.val (.ref a1), .val (.int (r.toInt32)), .val (.int (i.toInt32))] [(.double u2), (.double u1)])) (fun _ k => X0.daload hx (by rw [e0]; exact Ar.1) (State.isArrayOf_alike hZ.alike Ar.2.1) Ar.2.2 (by rw [Sz]; exact idx_in hr hl) (by rw [clampN (Nat.lt_trans hr hl)]; exact hu2) (g := (mkF m 15 #[.val (.ref a1), .val (.int (r.toInt32)), .val (.int (i.toInt32))] [(.int (r.toInt32)), (.ref a1), (.double u1)])) rfl rfl (hb hby d1_15) _ k) ?_
      rcases Int.lt_trichotomy (js.getD i 0) (js.getD r 0) with hd16 | hd16 | hd16
      · refine go (B := s₁.setTop (mkF m 17 #[.val (.ref a1), .val (.int (r.toInt32)), .val (.int (i.toInt32))] [(.int (-1 : Int32))])) (fun _ k => XD.dcmp X0.here hx rfl (hb hby d1_16) rfl (XD.lt du1 du2 hd16) k) ?_
        have hc17 : ¬ ((0 : Int32) < (-1 : Int32)) := by decide
        refine go (B := s₁.setTop (mkF m 22 #[.val (.ref a1), .val (.int (r.toInt32)), .val (.int (i.toInt32))] [])) (fun _ k => XS.ifYes X0.here hx rfl (pc0 := 17) (pc' := 22) rfl (hb hby d1_17) rfl ((if0 _ _).trans (flt hc17).2.2.2) (by decide) (by decide) k) ?_
        refine go (B := s₁.setTop (mkF m 25 #[.val (.ref a1), .val (.int (r.toInt32)), .val (.int ((i.toInt32) + (1 : Int32)))] [])) (fun _ k => XS.iinc X0.here hx rfl (hb hby d1_22) rfl (l' := #[.val (.ref a1), .val (.int (r.toInt32)), .val (.int ((i.toInt32) + (1 : Int32)))]) rfl k) ?_
        refine go (B := s₁.setTop (mkF m 4 #[.val (.ref a1), .val (.int (r.toInt32)), .val (.int ((i.toInt32) + (1 : Int32)))] [])) (fun _ k => XS.goto X0.here hx rfl (pc0 := 25) (pc' := 4) rfl (hb hby d1_25) (by decide) (by decide) k) ?_
        rw [succ32]
        exact ih (i + 1) r (by omega) (by omega) (fun j hj => by
          by_cases q : j < i
          · have := h3 j q; omega
          · obtain rfl : j = i := by omega
            omega) h4
      · refine go (B := s₁.setTop (mkF m 17 #[.val (.ref a1), .val (.int (r.toInt32)), .val (.int (i.toInt32))] [(.int (0 : Int32))])) (fun _ k => XD.dcmp X0.here hx rfl (hb hby d1_16) rfl (XD.eq du1 du2 hd16) k) ?_
        have hc17 : ¬ ((0 : Int32) < (0 : Int32)) := by decide
        refine go (B := s₁.setTop (mkF m 22 #[.val (.ref a1), .val (.int (r.toInt32)), .val (.int (i.toInt32))] [])) (fun _ k => XS.ifYes X0.here hx rfl (pc0 := 17) (pc' := 22) rfl (hb hby d1_17) rfl ((if0 _ _).trans (flt hc17).2.2.2) (by decide) (by decide) k) ?_
        refine go (B := s₁.setTop (mkF m 25 #[.val (.ref a1), .val (.int (r.toInt32)), .val (.int ((i.toInt32) + (1 : Int32)))] [])) (fun _ k => XS.iinc X0.here hx rfl (hb hby d1_22) rfl (l' := #[.val (.ref a1), .val (.int (r.toInt32)), .val (.int ((i.toInt32) + (1 : Int32)))]) rfl k) ?_
        refine go (B := s₁.setTop (mkF m 4 #[.val (.ref a1), .val (.int (r.toInt32)), .val (.int ((i.toInt32) + (1 : Int32)))] [])) (fun _ k => XS.goto X0.here hx rfl (pc0 := 25) (pc' := 4) rfl (hb hby d1_25) (by decide) (by decide) k) ?_
        rw [succ32]
        exact ih (i + 1) r (by omega) (by omega) (fun j hj => by
          by_cases q : j < i
          · have := h3 j q; omega
          · obtain rfl : j = i := by omega
            omega) h4
      · refine go (B := s₁.setTop (mkF m 17 #[.val (.ref a1), .val (.int (r.toInt32)), .val (.int (i.toInt32))] [(.int (1 : Int32))])) (fun _ k => XD.dcmp X0.here hx rfl (hb hby d1_16) rfl (XD.gt du1 du2 hd16) k) ?_
        have hc17 : (0 : Int32) < (1 : Int32) := by decide
        refine go (B := s₁.setTop (mkF m 20 #[.val (.ref a1), .val (.int (r.toInt32)), .val (.int (i.toInt32))] [])) (fun _ k => XS.ifNo X0.here hx rfl (hb hby d1_17) rfl ((if0 _ _).trans (tlt hc17).2.2.2) k) ?_
        refine go (B := s₁.setTop (mkF m 21 #[.val (.ref a1), .val (.int (r.toInt32)), .val (.int (i.toInt32))] [(.int (i.toInt32))])) (fun _ k => XS.iloadN X0.here hx rfl (hb hby d1_20) rfl k) ?_
        refine go (B := s₁.setTop (mkF m 22 #[.val (.ref a1), .val (.int (i.toInt32)), .val (.int (i.toInt32))] [])) (fun _ k => XS.istoreN X0.here hx rfl (hb hby d1_21) rfl (l' := #[.val (.ref a1), .val (.int (i.toInt32)), .val (.int (i.toInt32))]) rfl k) ?_
        refine go (B := s₁.setTop (mkF m 25 #[.val (.ref a1), .val (.int (i.toInt32)), .val (.int ((i.toInt32) + (1 : Int32)))] [])) (fun _ k => XS.iinc X0.here hx rfl (hb hby d1_22) rfl (l' := #[.val (.ref a1), .val (.int (i.toInt32)), .val (.int ((i.toInt32) + (1 : Int32)))]) rfl k) ?_
        refine go (B := s₁.setTop (mkF m 4 #[.val (.ref a1), .val (.int (i.toInt32)), .val (.int ((i.toInt32) + (1 : Int32)))] [])) (fun _ k => XS.goto X0.here hx rfl (pc0 := 25) (pc' := 4) rfl (hb hby d1_25) (by decide) (by decide) k) ?_
        rw [succ32]
        exact ih (i + 1) i (by omega) (by omega) (fun j hj => by
          by_cases q : j < i
          · have := h3 j q; omega
          · obtain rfl : j = i := by omega
            omega) (fun j hj => by have := h3 j hj; omega)
  refine go (B := s₁.setTop (mkF m 1 #[.val (.ref a1), .unset, .unset] [(.int (0 : Int32))])) (fun _ k => XS.iconst X0.here hx rfl (hb hby d1_0) k) ?_
  refine go (B := s₁.setTop (mkF m 2 #[.val (.ref a1), .val (.int (0 : Int32)), .unset] [])) (fun _ k => XS.istoreN X0.here hx rfl (hb hby d1_1) rfl (l' := #[.val (.ref a1), .val (.int (0 : Int32)), .unset]) rfl k) ?_
  refine go (B := s₁.setTop (mkF m 3 #[.val (.ref a1), .val (.int (0 : Int32)), .unset] [(.int (1 : Int32))])) (fun _ k => XS.iconst X0.here hx rfl (hb hby d1_2) k) ?_
  refine go (B := s₁.setTop (mkF m 4 #[.val (.ref a1), .val (.int (0 : Int32)), .val (.int (1 : Int32))] [])) (fun _ k => XS.istoreN X0.here hx rfl (hb hby d1_3) rfl (l' := #[.val (.ref a1), .val (.int (0 : Int32)), .val (.int (1 : Int32))]) rfl k) ?_
  exact loop (js.length - 1) 1 0 (by omega) (by decide) (fun j hj => by obtain rfl : j = 0 := (by omega); exact Int.le_refl _) (fun j hj => absurd hj (Nat.not_lt_zero _))
theorem pn_com_example_cladestream_cladestream_ParticlesBestPinLaw : plainName "com/example/cladestream/cladestream/ParticlesBestPinLaw" = true := by first | (simp [plainName, overriddenIn]; done) | decide +kernel
theorem ef_rm2 (m : MethodId) (a1 : Addr) (p2 : Int32) (p3 : Int32) (p4 : Int32) : entryFrame m #[(.ref a1), (.int p2), (.int p3), (.int p4)] 4 = mkF m 0 #[.val (.ref a1), .val (.int p2), .val (.int p3), .val (.int p4)] [] := by first | (simp [entryFrame, mkF, argsToLocals, Value.category]; done) | rfl
def Q2 (Z : State) (a1 : Addr) (p2 : Int32) (p3 : Int32) (p4 : Int32) (js : List Int) (r : Nat) (i : Nat) (h0 : Heap) (n0 : Nat) (v : Option Value) (h : Heap) (L : List Loc) : Prop := v = some (.int (okF js r i)) ∧ Fr n0 L ∧ h = h0
theorem d2_0 : decode method_2_code 0 = .ok (.iload_n 3, 1) := by decide +kernel
theorem d2_1 : decode method_2_code 1 = .ok (.iload_n 1, 1) := by decide +kernel
theorem d2_2 : decode method_2_code 2 = .ok (.if_icmp .lt 5, 3) := by decide +kernel
theorem d2_7 : decode method_2_code 7 = .ok (.aload_n 0, 1) := by decide +kernel
theorem d2_8 : decode method_2_code 8 = .ok (.iload_n 3, 1) := by decide +kernel
theorem d2_9 : decode method_2_code 9 = .ok (.daload, 1) := by decide +kernel
theorem d2_10 : decode method_2_code 10 = .ok (.aload_n 0, 1) := by decide +kernel
theorem d2_11 : decode method_2_code 11 = .ok (.iload_n 2, 1) := by decide +kernel
theorem d2_12 : decode method_2_code 12 = .ok (.daload, 1) := by decide +kernel
theorem d2_13 : decode method_2_code 13 = .ok (.dcmp .l, 1) := by decide +kernel
theorem d2_14 : decode method_2_code 14 = .ok (.ifCond .le 5, 3) := by decide +kernel
theorem d2_19 : decode method_2_code 19 = .ok (.iload_n 3, 1) := by decide +kernel
theorem d2_20 : decode method_2_code 20 = .ok (.iload_n 2, 1) := by decide +kernel
theorem d2_21 : decode method_2_code 21 = .ok (.if_icmp .ge 15, 3) := by decide +kernel
theorem d2_24 : decode method_2_code 24 = .ok (.aload_n 0, 1) := by decide +kernel
theorem d2_25 : decode method_2_code 25 = .ok (.iload_n 3, 1) := by decide +kernel
theorem d2_26 : decode method_2_code 26 = .ok (.daload, 1) := by decide +kernel
theorem d2_27 : decode method_2_code 27 = .ok (.aload_n 0, 1) := by decide +kernel
theorem d2_28 : decode method_2_code 28 = .ok (.iload_n 2, 1) := by decide +kernel
theorem d2_29 : decode method_2_code 29 = .ok (.daload, 1) := by decide +kernel
theorem d2_30 : decode method_2_code 30 = .ok (.dcmp .g, 1) := by decide +kernel
theorem d2_31 : decode method_2_code 31 = .ok (.ifCond .lt 5, 3) := by decide +kernel
theorem d2_36 : decode method_2_code 36 = .ok (.iconst 1, 1) := by decide +kernel
theorem d2_37 : decode method_2_code 37 = .ok (.ireturn, 1) := by decide +kernel
theorem d2_34 : decode method_2_code 34 = .ok (.iconst 0, 1) := by decide +kernel
theorem d2_35 : decode method_2_code 35 = .ok (.ireturn, 1) := by decide +kernel
theorem d2_17 : decode method_2_code 17 = .ok (.iconst 0, 1) := by decide +kernel
theorem d2_18 : decode method_2_code 18 = .ok (.ireturn, 1) := by decide +kernel
theorem d2_5 : decode method_2_code 5 = .ok (.iconst 1, 1) := by decide +kernel
theorem d2_6 : decode method_2_code 6 = .ok (.ireturn, 1) := by decide +kernel
set_option maxRecDepth 65536 in
set_option maxHeartbeats 40000000 in
theorem rm2 (l : Launch) (Z : State) (a0 : Array Value) (hw : ∀ d ∈ tables_1, d.before a0 Z = true) (ws : List Jvm.Cond) (a1 : Addr) (p2 : Int32) (p3 : Int32) (p4 : Int32) (js : List Int) (r : Nat) (i : Nat) (h0 : Heap) (n0 : Nat) (Z0 : n0 ≤ h0.size) (D0 : DArr Z h0 a1 js) (hl : js.length < 2 ^ 31) (hr : r < js.length) (hi2 : i < 2 ^ 31) (e2 : p2 = js.length.toInt32) (e3 : p3 = r.toInt32) (e4 : p4 = i.toInt32) :
    MetFree l (⟨"com/example/cladestream/cladestream/ParticlesBestPinLaw", "ok", "([DIII)Z"⟩ : MethodName) (head1 (Jvm.Cond.code (⟨"com/example/cladestream/cladestream/ParticlesBestPinLaw", "ok", "([DIII)Z"⟩ : MethodName) method_2_code 4 (some .boolean) :: ws) ({ frames := 0, cells := 0, slots := 0, locals := 0 } : Room)) (fun a U => a = #[(.ref a1), (.int p2), (.int p3), (.int p4)] ∧ Z.Warmed39 U.vm ∧ U.heap = h0) (fun _ _ _ _ _ => True) (fun _ U o U' => ∃ v L, o = .returned v ∧ Q2 Z a1 p2 p3 p4 js r i h0 n0 v U'.heap L ∧ FrameEnd U o U' L ({ frames := 0, cells := 0, slots := 0, locals := 0 } : Room).cells ({ frames := 0, cells := 0, slots := 0, locals := 0 } : Room).slots) := by
  refine MetFree.of_bodySF (plainFor_of_name pn_com_example_cladestream_cladestream_ParticlesBestPinLaw) hisR ?_
  intro p e s m args below meth c s₁ Bd hml0 hP hK
  obtain ⟨rfl, hZ, hh⟩ := hP
  have hx := Bd.exec
  have hby := Bd.bytes
  have hml : c.maxLocals = 4 := hml0
  have hown : s.vm.findClass "com/example/cladestream/cladestream/ParticlesBestPinLaw" = some m.cls := findClass_of_methodNamed Bd.named
  have hnm := (name_of_methodNamed Bd.named Bd.method).1
  have hlk := Bd.notSynchronized
  have X0 : Stand p l e ({ frames := 0, cells := 0, slots := 0, locals := 0 } : Room) s m #[(.ref a1), (.int p2), (.int p3), (.int p4)] below meth c s₁ [] 0 0 := Stand.of_body Bd
  have e0 : s₁.heap = h0 := by rw [← hh, Bd.state]; rfl
  have N0 := Fr.nil n0
  show Go p.tables e below s ({ frames := 0, cells := 0, slots := 0, locals := 0 } : Room).cells ({ frames := 0, cells := 0, slots := 0, locals := 0 } : Room).slots (Q2 Z a1 p2 p3 p4 js r i h0 n0) _
  refine go (fun t k => castTop (ef_rm2 m a1 p2 p3 p4) k) ?_
  subst e2 e3 e4
  obtain ⟨cl, Ar, Sz, El⟩ := D0
  refine go (B := s₁.setTop (mkF m 1 #[.val (.ref a1), .val (.int (js.length.toInt32)), .val (.int (r.toInt32)), .val (.int (i.toInt32))] [(.int (i.toInt32))])) (fun _ k => XS.iloadN X0.here hx rfl (hb hby d2_0) rfl k) ?_
  refine go (B := s₁.setTop (mkF m 2 #[.val (.ref a1), .val (.int (js.length.toInt32)), .val (.int (r.toInt32)), .val (.int (i.toInt32))] [(.int (js.length.toInt32)), (.int (i.toInt32))])) (fun _ k => XS.iloadN X0.here hx rfl (hb hby d2_1) rfl k) ?_
  by_cases hc2 : (i.toInt32) < (js.length.toInt32)
  · refine go (B := s₁.setTop (mkF m 7 #[.val (.ref a1), .val (.int (js.length.toInt32)), .val (.int (r.toInt32)), .val (.int (i.toInt32))] [])) (fun _ k => XS.icmpYes X0.here hx rfl (pc0 := 2) (pc' := 7) rfl (hb hby d2_2) rfl (tlt hc2).1 (by decide) (by decide) k) ?_
    have hi : i < js.length := (ltN hi2 hl).mp hc2
    refine go (B := s₁.setTop (mkF m 8 #[.val (.ref a1), .val (.int (js.length.toInt32)), .val (.int (r.toInt32)), .val (.int (i.toInt32))] [(.ref a1)])) (fun _ k => XS.aloadN X0.here hx rfl (hb hby d2_7) rfl rfl k) ?_
    refine go (B := s₁.setTop (mkF m 9 #[.val (.ref a1), .val (.int (js.length.toInt32)), .val (.int (r.toInt32)), .val (.int (i.toInt32))] [(.int (i.toInt32)), (.ref a1)])) (fun _ k => XS.iloadN X0.here hx rfl (hb hby d2_8) rfl k) ?_
    obtain ⟨u1, hu1, du1⟩ := El i hi
    refine go (B := s₁.setTop (mkF m 10 #[.val (.ref a1), .val (.int (js.length.toInt32)), .val (.int (r.toInt32)), .val (.int (i.toInt32))] [(.double u1)])) (fun _ k => X0.daload hx (by rw [e0]; exact Ar.1) (State.isArrayOf_alike hZ.alike Ar.2.1) Ar.2.2 (by rw [Sz]; exact idx_in hi hl) (by rw [clampN (Nat.lt_trans hi hl)]; exact hu1) (g := (mkF m 9 #[.val (.ref a1), .val (.int (js.length.toInt32)), .val (.int (r.toInt32)), .val (.int (i.toInt32))] [(.int (i.toInt32)), (.ref a1)])) rfl rfl (hb hby d2_9) _ k) ?_
    refine go (B := s₁.setTop (mkF m 11 #[.val (.ref a1), .val (.int (js.length.toInt32)), .val (.int (r.toInt32)), .val (.int (i.toInt32))] [(.ref a1), (.double u1)])) (fun _ k => XS.aloadN X0.here hx rfl (hb hby d2_10) rfl rfl k) ?_
    refine go (B := s₁.setTop (mkF m 12 #[.val (.ref a1), .val (.int (js.length.toInt32)), .val (.int (r.toInt32)), .val (.int (i.toInt32))] [(.int (r.toInt32)), (.ref a1), (.double u1)])) (fun _ k => XS.iloadN X0.here hx rfl (hb hby d2_11) rfl k) ?_
    obtain ⟨u2, hu2, du2⟩ := El r hr
    refine go (B := s₁.setTop (mkF m 13 #[.val (.ref a1), .val (.int (js.length.toInt32)), .val (.int (r.toInt32)), .val (.int (i.toInt32))] [(.double u2), (.double u1)])) (fun _ k => X0.daload hx (by rw [e0]; exact Ar.1) (State.isArrayOf_alike hZ.alike Ar.2.1) Ar.2.2 (by rw [Sz]; exact idx_in hr hl) (by rw [clampN (Nat.lt_trans hr hl)]; exact hu2) (g := (mkF m 12 #[.val (.ref a1), .val (.int (js.length.toInt32)), .val (.int (r.toInt32)), .val (.int (i.toInt32))] [(.int (r.toInt32)), (.ref a1), (.double u1)])) rfl rfl (hb hby d2_12) _ k) ?_
    rcases Int.lt_trichotomy (js.getD i 0) (js.getD r 0) with hd13 | hd13 | hd13
    · refine go (B := s₁.setTop (mkF m 14 #[.val (.ref a1), .val (.int (js.length.toInt32)), .val (.int (r.toInt32)), .val (.int (i.toInt32))] [(.int (-1 : Int32))])) (fun _ k => XD.dcmp X0.here hx rfl (hb hby d2_13) rfl (XD.lt du1 du2 hd13) k) ?_
      have hc14 : ¬ ((0 : Int32) < (-1 : Int32)) := by decide
      refine go (B := s₁.setTop (mkF m 19 #[.val (.ref a1), .val (.int (js.length.toInt32)), .val (.int (r.toInt32)), .val (.int (i.toInt32))] [])) (fun _ k => XS.ifYes X0.here hx rfl (pc0 := 14) (pc' := 19) rfl (hb hby d2_14) rfl ((if0 _ _).trans (flt hc14).2.2.2) (by decide) (by decide) k) ?_
      refine go (B := s₁.setTop (mkF m 20 #[.val (.ref a1), .val (.int (js.length.toInt32)), .val (.int (r.toInt32)), .val (.int (i.toInt32))] [(.int (i.toInt32))])) (fun _ k => XS.iloadN X0.here hx rfl (hb hby d2_19) rfl k) ?_
      refine go (B := s₁.setTop (mkF m 21 #[.val (.ref a1), .val (.int (js.length.toInt32)), .val (.int (r.toInt32)), .val (.int (i.toInt32))] [(.int (r.toInt32)), (.int (i.toInt32))])) (fun _ k => XS.iloadN X0.here hx rfl (hb hby d2_20) rfl k) ?_
      by_cases hc21 : (i.toInt32) < (r.toInt32)
      · refine go (B := s₁.setTop (mkF m 24 #[.val (.ref a1), .val (.int (js.length.toInt32)), .val (.int (r.toInt32)), .val (.int (i.toInt32))] [])) (fun _ k => XS.icmpNo X0.here hx rfl (hb hby d2_21) rfl (tlt hc21).2.1 k) ?_
        refine go (B := s₁.setTop (mkF m 25 #[.val (.ref a1), .val (.int (js.length.toInt32)), .val (.int (r.toInt32)), .val (.int (i.toInt32))] [(.ref a1)])) (fun _ k => XS.aloadN X0.here hx rfl (hb hby d2_24) rfl rfl k) ?_
        refine go (B := s₁.setTop (mkF m 26 #[.val (.ref a1), .val (.int (js.length.toInt32)), .val (.int (r.toInt32)), .val (.int (i.toInt32))] [(.int (i.toInt32)), (.ref a1)])) (fun _ k => XS.iloadN X0.here hx rfl (hb hby d2_25) rfl k) ?_
        obtain ⟨u3, hu3, du3⟩ := El i hi
        refine go (B := s₁.setTop (mkF m 27 #[.val (.ref a1), .val (.int (js.length.toInt32)), .val (.int (r.toInt32)), .val (.int (i.toInt32))] [(.double u3)])) (fun _ k => X0.daload hx (by rw [e0]; exact Ar.1) (State.isArrayOf_alike hZ.alike Ar.2.1) Ar.2.2 (by rw [Sz]; exact idx_in hi hl) (by rw [clampN (Nat.lt_trans hi hl)]; exact hu3) (g := (mkF m 26 #[.val (.ref a1), .val (.int (js.length.toInt32)), .val (.int (r.toInt32)), .val (.int (i.toInt32))] [(.int (i.toInt32)), (.ref a1)])) rfl rfl (hb hby d2_26) _ k) ?_
        refine go (B := s₁.setTop (mkF m 28 #[.val (.ref a1), .val (.int (js.length.toInt32)), .val (.int (r.toInt32)), .val (.int (i.toInt32))] [(.ref a1), (.double u3)])) (fun _ k => XS.aloadN X0.here hx rfl (hb hby d2_27) rfl rfl k) ?_
        refine go (B := s₁.setTop (mkF m 29 #[.val (.ref a1), .val (.int (js.length.toInt32)), .val (.int (r.toInt32)), .val (.int (i.toInt32))] [(.int (r.toInt32)), (.ref a1), (.double u3)])) (fun _ k => XS.iloadN X0.here hx rfl (hb hby d2_28) rfl k) ?_
        obtain ⟨u4, hu4, du4⟩ := El r hr
        refine go (B := s₁.setTop (mkF m 30 #[.val (.ref a1), .val (.int (js.length.toInt32)), .val (.int (r.toInt32)), .val (.int (i.toInt32))] [(.double u4), (.double u3)])) (fun _ k => X0.daload hx (by rw [e0]; exact Ar.1) (State.isArrayOf_alike hZ.alike Ar.2.1) Ar.2.2 (by rw [Sz]; exact idx_in hr hl) (by rw [clampN (Nat.lt_trans hr hl)]; exact hu4) (g := (mkF m 29 #[.val (.ref a1), .val (.int (js.length.toInt32)), .val (.int (r.toInt32)), .val (.int (i.toInt32))] [(.int (r.toInt32)), (.ref a1), (.double u3)])) rfl rfl (hb hby d2_29) _ k) ?_
        rcases Int.lt_trichotomy (js.getD i 0) (js.getD r 0) with hd30 | hd30 | hd30
        · refine go (B := s₁.setTop (mkF m 31 #[.val (.ref a1), .val (.int (js.length.toInt32)), .val (.int (r.toInt32)), .val (.int (i.toInt32))] [(.int (-1 : Int32))])) (fun _ k => XD.dcmp X0.here hx rfl (hb hby d2_30) rfl (XD.lt du3 du4 hd30) k) ?_
          have hc31 : (-1 : Int32) < (0 : Int32) := by decide
          refine go (B := s₁.setTop (mkF m 36 #[.val (.ref a1), .val (.int (js.length.toInt32)), .val (.int (r.toInt32)), .val (.int (i.toInt32))] [])) (fun _ k => XS.ifYes X0.here hx rfl (pc0 := 31) (pc' := 36) rfl (hb hby d2_31) rfl ((if0 _ _).trans (tlt hc31).1) (by decide) (by decide) k) ?_
          refine go (B := s₁.setTop (mkF m 37 #[.val (.ref a1), .val (.int (js.length.toInt32)), .val (.int (r.toInt32)), .val (.int (i.toInt32))] [(.int (1 : Int32))])) (fun _ k => XS.iconst X0.here hx rfl (hb hby d2_36) k) ?_
          refine goRetN X0 hx (t := .boolean) Bd.returns (by simp) hlk (hb hby d2_37) ?_ (by decide) (by decide)
          rw [e0]
          have q : okF js r i = (1 : Int32) := by unfold okF; have z := (ltN hi2 (Nat.lt_trans hr hl)).mp hc21; rw [if_pos hi, if_neg (by omega), if_neg fun y => y.2 (by omega)]
          exact ⟨by rw [q]; rfl, N0, rfl⟩
        · refine go (B := s₁.setTop (mkF m 31 #[.val (.ref a1), .val (.int (js.length.toInt32)), .val (.int (r.toInt32)), .val (.int (i.toInt32))] [(.int (0 : Int32))])) (fun _ k => XD.dcmp X0.here hx rfl (hb hby d2_30) rfl (XD.eq du3 du4 hd30) k) ?_
          have hc31 : ¬ ((0 : Int32) < (0 : Int32)) := by decide
          refine go (B := s₁.setTop (mkF m 34 #[.val (.ref a1), .val (.int (js.length.toInt32)), .val (.int (r.toInt32)), .val (.int (i.toInt32))] [])) (fun _ k => XS.ifNo X0.here hx rfl (hb hby d2_31) rfl ((if0 _ _).trans (flt hc31).1) k) ?_
          refine go (B := s₁.setTop (mkF m 35 #[.val (.ref a1), .val (.int (js.length.toInt32)), .val (.int (r.toInt32)), .val (.int (i.toInt32))] [(.int (0 : Int32))])) (fun _ k => XS.iconst X0.here hx rfl (hb hby d2_34) k) ?_
          refine goRetN X0 hx (t := .boolean) Bd.returns (by simp) hlk (hb hby d2_35) ?_ (by decide) (by decide)
          rw [e0]
          have q : okF js r i = (0 : Int32) := by unfold okF; have z := (ltN hi2 (Nat.lt_trans hr hl)).mp hc21; rw [if_pos hi, if_neg (by omega), if_pos ⟨z, by omega⟩]
          exact ⟨by rw [q]; rfl, N0, rfl⟩
        · refine go (B := s₁.setTop (mkF m 31 #[.val (.ref a1), .val (.int (js.length.toInt32)), .val (.int (r.toInt32)), .val (.int (i.toInt32))] [(.int (1 : Int32))])) (fun _ k => XD.dcmp X0.here hx rfl (hb hby d2_30) rfl (XD.gt du3 du4 hd30) k) ?_
          have hc31 : ¬ ((1 : Int32) < (0 : Int32)) := by decide
          refine go (B := s₁.setTop (mkF m 34 #[.val (.ref a1), .val (.int (js.length.toInt32)), .val (.int (r.toInt32)), .val (.int (i.toInt32))] [])) (fun _ k => XS.ifNo X0.here hx rfl (hb hby d2_31) rfl ((if0 _ _).trans (flt hc31).1) k) ?_
          refine go (B := s₁.setTop (mkF m 35 #[.val (.ref a1), .val (.int (js.length.toInt32)), .val (.int (r.toInt32)), .val (.int (i.toInt32))] [(.int (0 : Int32))])) (fun _ k => XS.iconst X0.here hx rfl (hb hby d2_34) k) ?_
          refine goRetN X0 hx (t := .boolean) Bd.returns (by simp) hlk (hb hby d2_35) ?_ (by decide) (by decide)
          rw [e0]
          have q : okF js r i = (0 : Int32) := by unfold okF; have z := (ltN hi2 (Nat.lt_trans hr hl)).mp hc21; rw [if_pos hi, if_neg (by omega), if_pos ⟨z, by omega⟩]
          exact ⟨by rw [q]; rfl, N0, rfl⟩
      · refine go (B := s₁.setTop (mkF m 36 #[.val (.ref a1), .val (.int (js.length.toInt32)), .val (.int (r.toInt32)), .val (.int (i.toInt32))] [])) (fun _ k => XS.icmpYes X0.here hx rfl (pc0 := 21) (pc' := 36) rfl (hb hby d2_21) rfl (flt hc21).2.1 (by decide) (by decide) k) ?_
        refine go (B := s₁.setTop (mkF m 37 #[.val (.ref a1), .val (.int (js.length.toInt32)), .val (.int (r.toInt32)), .val (.int (i.toInt32))] [(.int (1 : Int32))])) (fun _ k => XS.iconst X0.here hx rfl (hb hby d2_36) k) ?_
        refine goRetN X0 hx (t := .boolean) Bd.returns (by simp) hlk (hb hby d2_37) ?_ (by decide) (by decide)
        rw [e0]
        have q : okF js r i = (1 : Int32) := by unfold okF; rw [if_pos hi, if_neg (by omega), if_neg fun z => hc21 ((ltN hi2 (Nat.lt_trans hr hl)).mpr z.1)]
        exact ⟨by rw [q]; rfl, N0, rfl⟩
    · refine go (B := s₁.setTop (mkF m 14 #[.val (.ref a1), .val (.int (js.length.toInt32)), .val (.int (r.toInt32)), .val (.int (i.toInt32))] [(.int (0 : Int32))])) (fun _ k => XD.dcmp X0.here hx rfl (hb hby d2_13) rfl (XD.eq du1 du2 hd13) k) ?_
      have hc14 : ¬ ((0 : Int32) < (0 : Int32)) := by decide
      refine go (B := s₁.setTop (mkF m 19 #[.val (.ref a1), .val (.int (js.length.toInt32)), .val (.int (r.toInt32)), .val (.int (i.toInt32))] [])) (fun _ k => XS.ifYes X0.here hx rfl (pc0 := 14) (pc' := 19) rfl (hb hby d2_14) rfl ((if0 _ _).trans (flt hc14).2.2.2) (by decide) (by decide) k) ?_
      refine go (B := s₁.setTop (mkF m 20 #[.val (.ref a1), .val (.int (js.length.toInt32)), .val (.int (r.toInt32)), .val (.int (i.toInt32))] [(.int (i.toInt32))])) (fun _ k => XS.iloadN X0.here hx rfl (hb hby d2_19) rfl k) ?_
      refine go (B := s₁.setTop (mkF m 21 #[.val (.ref a1), .val (.int (js.length.toInt32)), .val (.int (r.toInt32)), .val (.int (i.toInt32))] [(.int (r.toInt32)), (.int (i.toInt32))])) (fun _ k => XS.iloadN X0.here hx rfl (hb hby d2_20) rfl k) ?_
      by_cases hc21 : (i.toInt32) < (r.toInt32)
      · refine go (B := s₁.setTop (mkF m 24 #[.val (.ref a1), .val (.int (js.length.toInt32)), .val (.int (r.toInt32)), .val (.int (i.toInt32))] [])) (fun _ k => XS.icmpNo X0.here hx rfl (hb hby d2_21) rfl (tlt hc21).2.1 k) ?_
        refine go (B := s₁.setTop (mkF m 25 #[.val (.ref a1), .val (.int (js.length.toInt32)), .val (.int (r.toInt32)), .val (.int (i.toInt32))] [(.ref a1)])) (fun _ k => XS.aloadN X0.here hx rfl (hb hby d2_24) rfl rfl k) ?_
        refine go (B := s₁.setTop (mkF m 26 #[.val (.ref a1), .val (.int (js.length.toInt32)), .val (.int (r.toInt32)), .val (.int (i.toInt32))] [(.int (i.toInt32)), (.ref a1)])) (fun _ k => XS.iloadN X0.here hx rfl (hb hby d2_25) rfl k) ?_
        obtain ⟨u5, hu5, du5⟩ := El i hi
        refine go (B := s₁.setTop (mkF m 27 #[.val (.ref a1), .val (.int (js.length.toInt32)), .val (.int (r.toInt32)), .val (.int (i.toInt32))] [(.double u5)])) (fun _ k => X0.daload hx (by rw [e0]; exact Ar.1) (State.isArrayOf_alike hZ.alike Ar.2.1) Ar.2.2 (by rw [Sz]; exact idx_in hi hl) (by rw [clampN (Nat.lt_trans hi hl)]; exact hu5) (g := (mkF m 26 #[.val (.ref a1), .val (.int (js.length.toInt32)), .val (.int (r.toInt32)), .val (.int (i.toInt32))] [(.int (i.toInt32)), (.ref a1)])) rfl rfl (hb hby d2_26) _ k) ?_
        refine go (B := s₁.setTop (mkF m 28 #[.val (.ref a1), .val (.int (js.length.toInt32)), .val (.int (r.toInt32)), .val (.int (i.toInt32))] [(.ref a1), (.double u5)])) (fun _ k => XS.aloadN X0.here hx rfl (hb hby d2_27) rfl rfl k) ?_
        refine go (B := s₁.setTop (mkF m 29 #[.val (.ref a1), .val (.int (js.length.toInt32)), .val (.int (r.toInt32)), .val (.int (i.toInt32))] [(.int (r.toInt32)), (.ref a1), (.double u5)])) (fun _ k => XS.iloadN X0.here hx rfl (hb hby d2_28) rfl k) ?_
        obtain ⟨u6, hu6, du6⟩ := El r hr
        refine go (B := s₁.setTop (mkF m 30 #[.val (.ref a1), .val (.int (js.length.toInt32)), .val (.int (r.toInt32)), .val (.int (i.toInt32))] [(.double u6), (.double u5)])) (fun _ k => X0.daload hx (by rw [e0]; exact Ar.1) (State.isArrayOf_alike hZ.alike Ar.2.1) Ar.2.2 (by rw [Sz]; exact idx_in hr hl) (by rw [clampN (Nat.lt_trans hr hl)]; exact hu6) (g := (mkF m 29 #[.val (.ref a1), .val (.int (js.length.toInt32)), .val (.int (r.toInt32)), .val (.int (i.toInt32))] [(.int (r.toInt32)), (.ref a1), (.double u5)])) rfl rfl (hb hby d2_29) _ k) ?_
        rcases Int.lt_trichotomy (js.getD i 0) (js.getD r 0) with hd30 | hd30 | hd30
        · refine go (B := s₁.setTop (mkF m 31 #[.val (.ref a1), .val (.int (js.length.toInt32)), .val (.int (r.toInt32)), .val (.int (i.toInt32))] [(.int (-1 : Int32))])) (fun _ k => XD.dcmp X0.here hx rfl (hb hby d2_30) rfl (XD.lt du5 du6 hd30) k) ?_
          have hc31 : (-1 : Int32) < (0 : Int32) := by decide
          refine go (B := s₁.setTop (mkF m 36 #[.val (.ref a1), .val (.int (js.length.toInt32)), .val (.int (r.toInt32)), .val (.int (i.toInt32))] [])) (fun _ k => XS.ifYes X0.here hx rfl (pc0 := 31) (pc' := 36) rfl (hb hby d2_31) rfl ((if0 _ _).trans (tlt hc31).1) (by decide) (by decide) k) ?_
          refine go (B := s₁.setTop (mkF m 37 #[.val (.ref a1), .val (.int (js.length.toInt32)), .val (.int (r.toInt32)), .val (.int (i.toInt32))] [(.int (1 : Int32))])) (fun _ k => XS.iconst X0.here hx rfl (hb hby d2_36) k) ?_
          refine goRetN X0 hx (t := .boolean) Bd.returns (by simp) hlk (hb hby d2_37) ?_ (by decide) (by decide)
          rw [e0]
          have q : okF js r i = (1 : Int32) := by unfold okF; have z := (ltN hi2 (Nat.lt_trans hr hl)).mp hc21; rw [if_pos hi, if_neg (by omega), if_neg fun y => y.2 (by omega)]
          exact ⟨by rw [q]; rfl, N0, rfl⟩
        · refine go (B := s₁.setTop (mkF m 31 #[.val (.ref a1), .val (.int (js.length.toInt32)), .val (.int (r.toInt32)), .val (.int (i.toInt32))] [(.int (0 : Int32))])) (fun _ k => XD.dcmp X0.here hx rfl (hb hby d2_30) rfl (XD.eq du5 du6 hd30) k) ?_
          have hc31 : ¬ ((0 : Int32) < (0 : Int32)) := by decide
          refine go (B := s₁.setTop (mkF m 34 #[.val (.ref a1), .val (.int (js.length.toInt32)), .val (.int (r.toInt32)), .val (.int (i.toInt32))] [])) (fun _ k => XS.ifNo X0.here hx rfl (hb hby d2_31) rfl ((if0 _ _).trans (flt hc31).1) k) ?_
          refine go (B := s₁.setTop (mkF m 35 #[.val (.ref a1), .val (.int (js.length.toInt32)), .val (.int (r.toInt32)), .val (.int (i.toInt32))] [(.int (0 : Int32))])) (fun _ k => XS.iconst X0.here hx rfl (hb hby d2_34) k) ?_
          refine goRetN X0 hx (t := .boolean) Bd.returns (by simp) hlk (hb hby d2_35) ?_ (by decide) (by decide)
          rw [e0]
          have q : okF js r i = (0 : Int32) := by unfold okF; have z := (ltN hi2 (Nat.lt_trans hr hl)).mp hc21; rw [if_pos hi, if_neg (by omega), if_pos ⟨z, by omega⟩]
          exact ⟨by rw [q]; rfl, N0, rfl⟩
        · refine go (B := s₁.setTop (mkF m 31 #[.val (.ref a1), .val (.int (js.length.toInt32)), .val (.int (r.toInt32)), .val (.int (i.toInt32))] [(.int (1 : Int32))])) (fun _ k => XD.dcmp X0.here hx rfl (hb hby d2_30) rfl (XD.gt du5 du6 hd30) k) ?_
          have hc31 : ¬ ((1 : Int32) < (0 : Int32)) := by decide
          refine go (B := s₁.setTop (mkF m 34 #[.val (.ref a1), .val (.int (js.length.toInt32)), .val (.int (r.toInt32)), .val (.int (i.toInt32))] [])) (fun _ k => XS.ifNo X0.here hx rfl (hb hby d2_31) rfl ((if0 _ _).trans (flt hc31).1) k) ?_
          refine go (B := s₁.setTop (mkF m 35 #[.val (.ref a1), .val (.int (js.length.toInt32)), .val (.int (r.toInt32)), .val (.int (i.toInt32))] [(.int (0 : Int32))])) (fun _ k => XS.iconst X0.here hx rfl (hb hby d2_34) k) ?_
          refine goRetN X0 hx (t := .boolean) Bd.returns (by simp) hlk (hb hby d2_35) ?_ (by decide) (by decide)
          rw [e0]
          have q : okF js r i = (0 : Int32) := by unfold okF; have z := (ltN hi2 (Nat.lt_trans hr hl)).mp hc21; rw [if_pos hi, if_neg (by omega), if_pos ⟨z, by omega⟩]
          exact ⟨by rw [q]; rfl, N0, rfl⟩
      · refine go (B := s₁.setTop (mkF m 36 #[.val (.ref a1), .val (.int (js.length.toInt32)), .val (.int (r.toInt32)), .val (.int (i.toInt32))] [])) (fun _ k => XS.icmpYes X0.here hx rfl (pc0 := 21) (pc' := 36) rfl (hb hby d2_21) rfl (flt hc21).2.1 (by decide) (by decide) k) ?_
        refine go (B := s₁.setTop (mkF m 37 #[.val (.ref a1), .val (.int (js.length.toInt32)), .val (.int (r.toInt32)), .val (.int (i.toInt32))] [(.int (1 : Int32))])) (fun _ k => XS.iconst X0.here hx rfl (hb hby d2_36) k) ?_
        refine goRetN X0 hx (t := .boolean) Bd.returns (by simp) hlk (hb hby d2_37) ?_ (by decide) (by decide)
        rw [e0]
        have q : okF js r i = (1 : Int32) := by unfold okF; rw [if_pos hi, if_neg (by omega), if_neg fun z => hc21 ((ltN hi2 (Nat.lt_trans hr hl)).mpr z.1)]
        exact ⟨by rw [q]; rfl, N0, rfl⟩
    · refine go (B := s₁.setTop (mkF m 14 #[.val (.ref a1), .val (.int (js.length.toInt32)), .val (.int (r.toInt32)), .val (.int (i.toInt32))] [(.int (1 : Int32))])) (fun _ k => XD.dcmp X0.here hx rfl (hb hby d2_13) rfl (XD.gt du1 du2 hd13) k) ?_
      have hc14 : (0 : Int32) < (1 : Int32) := by decide
      refine go (B := s₁.setTop (mkF m 17 #[.val (.ref a1), .val (.int (js.length.toInt32)), .val (.int (r.toInt32)), .val (.int (i.toInt32))] [])) (fun _ k => XS.ifNo X0.here hx rfl (hb hby d2_14) rfl ((if0 _ _).trans (tlt hc14).2.2.2) k) ?_
      refine go (B := s₁.setTop (mkF m 18 #[.val (.ref a1), .val (.int (js.length.toInt32)), .val (.int (r.toInt32)), .val (.int (i.toInt32))] [(.int (0 : Int32))])) (fun _ k => XS.iconst X0.here hx rfl (hb hby d2_17) k) ?_
      refine goRetN X0 hx (t := .boolean) Bd.returns (by simp) hlk (hb hby d2_18) ?_ (by decide) (by decide)
      rw [e0]
      have q : okF js r i = (0 : Int32) := by unfold okF; rw [if_pos hi, if_pos (by omega)]
      exact ⟨by rw [q]; rfl, N0, rfl⟩
  · refine go (B := s₁.setTop (mkF m 5 #[.val (.ref a1), .val (.int (js.length.toInt32)), .val (.int (r.toInt32)), .val (.int (i.toInt32))] [])) (fun _ k => XS.icmpNo X0.here hx rfl (hb hby d2_2) rfl (flt hc2).1 k) ?_
    refine go (B := s₁.setTop (mkF m 6 #[.val (.ref a1), .val (.int (js.length.toInt32)), .val (.int (r.toInt32)), .val (.int (i.toInt32))] [(.int (1 : Int32))])) (fun _ k => XS.iconst X0.here hx rfl (hb hby d2_5) k) ?_
    refine goRetN X0 hx (t := .boolean) Bd.returns (by simp) hlk (hb hby d2_6) ?_ (by decide) (by decide)
    rw [e0]
    have q : okF js r i = (1 : Int32) := by unfold okF; rw [if_neg fun z => hc2 ((ltN hi2 hl).mpr z)]
    exact ⟨by rw [q]; rfl, N0, rfl⟩
theorem ef_rm0 (m : MethodId) (p1 : Int32) (p2 : Int32) (p3 : Int32) (p4 : Int32) (p5 : Int32) (p6 : Int32) : entryFrame m #[(.int p1), (.int p2), (.int p3), (.int p4), (.int p5), (.int p6)] maxLocals = mkF m 0 #[.val (.int p1), .val (.int p2), .val (.int p3), .val (.int p4), .val (.int p5), .val (.int p6), .unset, .unset, .unset] [] := by first | (simp [entryFrame, mkF, argsToLocals, Value.category, maxLocals]; done) | rfl
def Q0 (Z : State) (p1 : Int32) (p2 : Int32) (p3 : Int32) (p4 : Int32) (p5 : Int32) (p6 : Int32) (h0 : Heap) (n0 : Nat) (v : Option Value) (h : Heap) (L : List Loc) : Prop := v = some (.int 1) ∧ Fr n0 L
theorem pd___D_I : parseMethodDescriptor "([D)I" = some ⟨[(.array .double)], some .int⟩ := by decide +kernel
theorem pd___DIII_Z : parseMethodDescriptor "([DIII)Z" = some ⟨[(.array .double), .int, .int, .int], some .boolean⟩ := by decide +kernel
set_option maxRecDepth 65536 in
set_option maxHeartbeats 40000000 in
theorem rm0 (l : Launch) (Z : State) (a0 : Array Value) (hw : ∀ d ∈ tables_1, d.before a0 Z = true) (ws : List Jvm.Cond) (p1 : Int32) (p2 : Int32) (p3 : Int32) (p4 : Int32) (p5 : Int32) (p6 : Int32) (h0 : Heap) (n0 : Nat) (Z0 : n0 ≤ h0.size) :
    MetFree l x (head1 (Jvm.Cond.code x code maxLocals ret :: ws) room_1) (fun a U => a = #[(.int p1), (.int p2), (.int p3), (.int p4), (.int p5), (.int p6)] ∧ Z.Warmed39 U.vm ∧ U.heap = h0) (fun _ _ _ _ _ => True) (fun _ U o U' => ∃ v L, o = .returned v ∧ Q0 Z p1 p2 p3 p4 p5 p6 h0 n0 v U'.heap L ∧ FrameEnd U o U' L room_1.cells room_1.slots) := by
  refine MetFree.of_bodySF (plainFor_of_name pn_com_example_cladestream_cladestream_ParticlesBestPinLaw) hisR ?_
  intro p e s m args below meth c s₁ Bd hml0 hP hK
  obtain ⟨rfl, hZ, hh⟩ := hP
  have hx := Bd.exec
  have hby := Bd.bytes
  have hml : c.maxLocals = 9 := hml0
  have hown : s.vm.findClass "com/example/cladestream/cladestream/ParticlesBestPinLaw" = some m.cls := findClass_of_methodNamed Bd.named
  have hnm := (name_of_methodNamed Bd.named Bd.method).1
  have hlk := Bd.notSynchronized
  have X0 : Stand p l e room_1 s m #[(.int p1), (.int p2), (.int p3), (.int p4), (.int p5), (.int p6)] below meth c s₁ [] 0 0 := Stand.of_body Bd
  have e0 : s₁.heap = h0 := by rw [← hh, Bd.state]; rfl
  have N0 := Fr.nil n0
  show Go p.tables e below s room_1.cells room_1.slots (Q0 Z p1 p2 p3 p4 p5 p6 h0 n0) _
  refine go (fun t k => castTop (ef_rm0 m p1 p2 p3 p4 p5 p6) k) ?_
  refine go (B := s₁.setTop (mkF m 1 #[.val (.int p1), .val (.int p2), .val (.int p3), .val (.int p4), .val (.int p5), .val (.int p6), .unset, .unset, .unset] [(.int p1)])) (fun _ k => XS.iloadN X0.here hx rfl (hb hby at_0) rfl k) ?_
  refine go (B := s₁.setTop (mkF m 3 #[.val (.int p1), .val (.int p2), .val (.int p3), .val (.int p4), .val (.int p5), .val (.int p6), .unset, .unset, .unset] [(.int (2147483647 : Int32)), (.int p1)])) (fun _ k => X0.ldcInt hx hown (mvT hZ (hw _ (List.mem_of_getElem? (i := 0) rfl))) (g := (mkF m 1 #[.val (.int p1), .val (.int p2), .val (.int p3), .val (.int p4), .val (.int p5), .val (.int p6), .unset, .unset, .unset] [(.int p1)])) rfl (hb hby at_1) _ k) ?_
  refine go (B := s₁.setTop (mkF m 4 #[.val (.int p1), .val (.int p2), .val (.int p3), .val (.int p4), .val (.int p5), .val (.int p6), .unset, .unset, .unset] [(.int (p1 &&& (2147483647 : Int32)))])) (fun _ k => XS.iand X0.here hx rfl (hb hby at_3) rfl k) ?_
  refine go (B := s₁.setTop (mkF m 5 #[.val (.int p1), .val (.int p2), .val (.int p3), .val (.int p4), .val (.int p5), .val (.int p6), .unset, .unset, .unset] [(.int (5 : Int32)), (.int (p1 &&& (2147483647 : Int32)))])) (fun _ k => XS.iconst X0.here hx rfl (hb hby at_4) k) ?_
  refine go (B := s₁.setTop (mkF m 6 #[.val (.int p1), .val (.int p2), .val (.int p3), .val (.int p4), .val (.int p5), .val (.int p6), .unset, .unset, .unset] [(.int ((p1 &&& (2147483647 : Int32)) % (5 : Int32)))])) (fun _ k => iremM X0 hx rfl (hb hby at_5) rfl (by decide) k) ?_
  refine go (B := s₁.setTop (mkF m 7 #[.val (.int p1), .val (.int p2), .val (.int p3), .val (.int p4), .val (.int p5), .val (.int p6), .unset, .unset, .unset] [(.int (1 : Int32)), (.int ((p1 &&& (2147483647 : Int32)) % (5 : Int32)))])) (fun _ k => XS.iconst X0.here hx rfl (hb hby at_6) k) ?_
  refine go (B := s₁.setTop (mkF m 8 #[.val (.int p1), .val (.int p2), .val (.int p3), .val (.int p4), .val (.int p5), .val (.int p6), .unset, .unset, .unset] [(.int (((p1 &&& (2147483647 : Int32)) % (5 : Int32)) + (1 : Int32)))])) (fun _ k => XS.iadd X0.here hx rfl (hb hby at_7) rfl k) ?_
  refine go (B := s₁.setTop (mkF m 10 #[.val (.int p1), .val (.int p2), .val (.int p3), .val (.int p4), .val (.int p5), .val (.int p6), .val (.int (((p1 &&& (2147483647 : Int32)) % (5 : Int32)) + (1 : Int32))), .unset, .unset] [])) (fun _ k => XS.istore X0.here hx rfl (hb hby at_8) rfl (l' := #[.val (.int p1), .val (.int p2), .val (.int p3), .val (.int p4), .val (.int p5), .val (.int p6), .val (.int (((p1 &&& (2147483647 : Int32)) % (5 : Int32)) + (1 : Int32))), .unset, .unset]) rfl k) ?_
  obtain ⟨n, q_n⟩ : ∃ z, z = (((p1 &&& (2147483647 : Int32)) % (5 : Int32)) + (1 : Int32)) := ⟨_, rfl⟩
  rw [← q_n]
  have B_n := n_in p1
  rw [← q_n] at B_n
  refine go (B := s₁.setTop (mkF m 12 #[.val (.int p1), .val (.int p2), .val (.int p3), .val (.int p4), .val (.int p5), .val (.int p6), .val (.int n), .unset, .unset] [(.int n)])) (fun _ k => XS.iload X0.here hx rfl (hb hby at_10) rfl k) ?_
  obtain ⟨T1, h1, k1, X1, e1, E1, A1, st1⟩ := newP X0 hx hZ (hw _ (List.mem_of_getElem? (i := 1) rfl)) e0 (g := (mkF m 12 #[.val (.int p1), .val (.int p2), .val (.int p3), .val (.int p4), .val (.int p5), .val (.int p6), .val (.int n), .unset, .unset] [(.int n)])) rfl (hb hby at_12) rfl (nneg (by omega)) (cap := 5) (ncl B_n.2) (by decide) (by decide) (by decide)
  obtain ⟨b1, g1⟩ : ∃ z, z = Array.size (h0) := ⟨_, rfl⟩
  rw [← g1] at A1 st1
  have g_b1 : n0 ≤ b1 := Nat.le_trans Z0 (Nat.le_of_eq g1.symm)
  have Z1 : n0 ≤ h1.size := Nat.le_trans Z0 E1.1
  have V_b1 := Arv.new A1 (nneg (by omega))
  refine go (B := T1.setTop (mkF m 14 #[.val (.int p1), .val (.int p2), .val (.int p3), .val (.int p4), .val (.int p5), .val (.int p6), .val (.int n), .unset, .unset] [(.ref b1)])) (fun _ k => st1 _ k) ?_
  replace V_b1 : Arv Z h1 b1 k1 .double n [(.double 0), (.double 0), (.double 0), (.double 0), (.double 0)] (.double 0) := V_b1.pad (pad_rep [] (.double 0) 5)
  refine go (B := T1.setTop (mkF m 16 #[.val (.int p1), .val (.int p2), .val (.int p3), .val (.int p4), .val (.int p5), .val (.int p6), .val (.int n), .val (.ref b1), .unset] [])) (fun _ k => XS.astore X1.here hx rfl (hb hby at_14) rfl rfl (l' := #[.val (.int p1), .val (.int p2), .val (.int p3), .val (.int p4), .val (.int p5), .val (.int p6), .val (.int n), .val (.ref b1), .unset]) rfl k) ?_
  refine go (B := T1.setTop (mkF m 18 #[.val (.int p1), .val (.int p2), .val (.int p3), .val (.int p4), .val (.int p5), .val (.int p6), .val (.int n), .val (.ref b1), .unset] [(.ref b1)])) (fun _ k => XS.aload X1.here hx rfl (hb hby at_16) rfl rfl k) ?_
  refine go (B := T1.setTop (mkF m 19 #[.val (.int p1), .val (.int p2), .val (.int p3), .val (.int p4), .val (.int p5), .val (.int p6), .val (.int n), .val (.ref b1), .unset] [(.int (0 : Int32)), (.ref b1)])) (fun _ k => XS.iconst X1.here hx rfl (hb hby at_18) k) ?_
  refine go (B := T1.setTop (mkF m 20 #[.val (.int p1), .val (.int p2), .val (.int p3), .val (.int p4), .val (.int p5), .val (.int p6), .val (.int n), .val (.ref b1), .unset] [(.int p2), (.int (0 : Int32)), (.ref b1)])) (fun _ k => XS.iloadN X1.here hx rfl (hb hby at_19) rfl k) ?_
  refine go (B := T1.setTop (mkF m 22 #[.val (.int p1), .val (.int p2), .val (.int p3), .val (.int p4), .val (.int p5), .val (.int p6), .val (.int n), .val (.ref b1), .unset] [(.int (15 : Int32)), (.int p2), (.int (0 : Int32)), (.ref b1)])) (fun _ k => XS.bipush X1.here hx rfl (hb hby at_20) k) ?_
  refine go (B := T1.setTop (mkF m 23 #[.val (.int p1), .val (.int p2), .val (.int p3), .val (.int p4), .val (.int p5), .val (.int p6), .val (.int n), .val (.ref b1), .unset] [(.int (p2 &&& (15 : Int32))), (.int (0 : Int32)), (.ref b1)])) (fun _ k => XS.iand X1.here hx rfl (hb hby at_22) rfl k) ?_
  refine go (B := T1.setTop (mkF m 25 #[.val (.int p1), .val (.int p2), .val (.int p3), .val (.int p4), .val (.int p5), .val (.int p6), .val (.int n), .val (.ref b1), .unset] [(.int (8 : Int32)), (.int (p2 &&& (15 : Int32))), (.int (0 : Int32)), (.ref b1)])) (fun _ k => XS.bipush X1.here hx rfl (hb hby at_23) k) ?_
  refine go (B := T1.setTop (mkF m 26 #[.val (.int p1), .val (.int p2), .val (.int p3), .val (.int p4), .val (.int p5), .val (.int p6), .val (.int n), .val (.ref b1), .unset] [(.int ((p2 &&& (15 : Int32)) - (8 : Int32))), (.int (0 : Int32)), (.ref b1)])) (fun _ k => XS.isub X1.here hx rfl (hb hby at_25) rfl k) ?_
  refine go (B := T1.setTop (mkF m 27 #[.val (.int p1), .val (.int p2), .val (.int p3), .val (.int p4), .val (.int p5), .val (.int p6), .val (.int n), .val (.ref b1), .unset] [(.double (FP.i2d ((p2 &&& (15 : Int32)) - (8 : Int32)))), (.int (0 : Int32)), (.ref b1)])) (fun _ k => XD.i2d X1.here hx rfl (hb hby at_26) rfl k) ?_
  obtain ⟨cl2, Ar2, q2, S2, M2, H2, G2⟩ := V_b1
  have zn : (0 : Int32) < n := by
    rw [Int32.lt_iff_toInt_lt]
    have c0 : (0 : Int32).toInt = 0 := by decide
    omega
  obtain ⟨T2, h2, X2, e2, W2, st2⟩ := stD X1 hx hZ e1 Ar2 (j := (0 : Int32)) (inb_of S2 ⟨by decide, zn⟩) (g := (mkF m 27 #[.val (.int p1), .val (.int p2), .val (.int p3), .val (.int p4), .val (.int p5), .val (.int p6), .val (.int n), .val (.ref b1), .unset] [(.double (FP.i2d ((p2 &&& (15 : Int32)) - (8 : Int32)))), (.int (0 : Int32)), (.ref b1)])) rfl rfl (hb hby at_27)
  have V2 : Arv Z h2 b1 k1 .double n [(.double (FP.i2d ((p2 &&& (15 : Int32)) - (8 : Int32)))), (.double 0), (.double 0), (.double 0), (.double 0)] (.double 0) := Arv.set Ar2 q2 S2 M2 H2 G2 rfl W2 0 rfl (by show 0 < 5; decide)
  have N2 := Fr.snoc X2 N0 g_b1
  have Z2 : n0 ≤ h2.size := Nat.le_trans Z1 (Keep.of_wr W2).1
  refine go (B := T2.setTop (mkF m 28 #[.val (.int p1), .val (.int p2), .val (.int p3), .val (.int p4), .val (.int p5), .val (.int p6), .val (.int n), .val (.ref b1), .unset] [])) (fun _ k => st2 _ k) ?_
  refine go (B := T2.setTop (mkF m 30 #[.val (.int p1), .val (.int p2), .val (.int p3), .val (.int p4), .val (.int p5), .val (.int p6), .val (.int n), .val (.ref b1), .unset] [(.int n)])) (fun _ k => XS.iload X2.here hx rfl (hb hby at_28) rfl k) ?_
  refine go (B := T2.setTop (mkF m 31 #[.val (.int p1), .val (.int p2), .val (.int p3), .val (.int p4), .val (.int p5), .val (.int p6), .val (.int n), .val (.ref b1), .unset] [(.int (1 : Int32)), (.int n)])) (fun _ k => XS.iconst X2.here hx rfl (hb hby at_30) k) ?_
  by_cases hc31 : (1 : Int32) < n
  · refine go (B := T2.setTop (mkF m 34 #[.val (.int p1), .val (.int p2), .val (.int p3), .val (.int p4), .val (.int p5), .val (.int p6), .val (.int n), .val (.ref b1), .unset] [])) (fun _ k => XS.icmpNo X2.here hx rfl (hb hby at_31) rfl (tlt hc31).2.2.2 k) ?_
    refine go (B := T2.setTop (mkF m 36 #[.val (.int p1), .val (.int p2), .val (.int p3), .val (.int p4), .val (.int p5), .val (.int p6), .val (.int n), .val (.ref b1), .unset] [(.ref b1)])) (fun _ k => XS.aload X2.here hx rfl (hb hby at_34) rfl rfl k) ?_
    refine go (B := T2.setTop (mkF m 37 #[.val (.int p1), .val (.int p2), .val (.int p3), .val (.int p4), .val (.int p5), .val (.int p6), .val (.int n), .val (.ref b1), .unset] [(.int (1 : Int32)), (.ref b1)])) (fun _ k => XS.iconst X2.here hx rfl (hb hby at_36) k) ?_
    refine go (B := T2.setTop (mkF m 38 #[.val (.int p1), .val (.int p2), .val (.int p3), .val (.int p4), .val (.int p5), .val (.int p6), .val (.int n), .val (.ref b1), .unset] [(.int p3), (.int (1 : Int32)), (.ref b1)])) (fun _ k => XS.iloadN X2.here hx rfl (hb hby at_37) rfl k) ?_
    refine go (B := T2.setTop (mkF m 40 #[.val (.int p1), .val (.int p2), .val (.int p3), .val (.int p4), .val (.int p5), .val (.int p6), .val (.int n), .val (.ref b1), .unset] [(.int (15 : Int32)), (.int p3), (.int (1 : Int32)), (.ref b1)])) (fun _ k => XS.bipush X2.here hx rfl (hb hby at_38) k) ?_
    refine go (B := T2.setTop (mkF m 41 #[.val (.int p1), .val (.int p2), .val (.int p3), .val (.int p4), .val (.int p5), .val (.int p6), .val (.int n), .val (.ref b1), .unset] [(.int (p3 &&& (15 : Int32))), (.int (1 : Int32)), (.ref b1)])) (fun _ k => XS.iand X2.here hx rfl (hb hby at_40) rfl k) ?_
    refine go (B := T2.setTop (mkF m 43 #[.val (.int p1), .val (.int p2), .val (.int p3), .val (.int p4), .val (.int p5), .val (.int p6), .val (.int n), .val (.ref b1), .unset] [(.int (8 : Int32)), (.int (p3 &&& (15 : Int32))), (.int (1 : Int32)), (.ref b1)])) (fun _ k => XS.bipush X2.here hx rfl (hb hby at_41) k) ?_
    refine go (B := T2.setTop (mkF m 44 #[.val (.int p1), .val (.int p2), .val (.int p3), .val (.int p4), .val (.int p5), .val (.int p6), .val (.int n), .val (.ref b1), .unset] [(.int ((p3 &&& (15 : Int32)) - (8 : Int32))), (.int (1 : Int32)), (.ref b1)])) (fun _ k => XS.isub X2.here hx rfl (hb hby at_43) rfl k) ?_
    refine go (B := T2.setTop (mkF m 45 #[.val (.int p1), .val (.int p2), .val (.int p3), .val (.int p4), .val (.int p5), .val (.int p6), .val (.int n), .val (.ref b1), .unset] [(.double (FP.i2d ((p3 &&& (15 : Int32)) - (8 : Int32)))), (.int (1 : Int32)), (.ref b1)])) (fun _ k => XD.i2d X2.here hx rfl (hb hby at_44) rfl k) ?_
    obtain ⟨cl3, Ar3, q3, S3, M3, H3, G3⟩ := V2
    obtain ⟨T3, h3, X3, e3, W3, st3⟩ := stD X2 hx hZ e2 Ar3 (j := (1 : Int32)) (inb_of S3 ⟨by decide, hc31⟩) (g := (mkF m 45 #[.val (.int p1), .val (.int p2), .val (.int p3), .val (.int p4), .val (.int p5), .val (.int p6), .val (.int n), .val (.ref b1), .unset] [(.double (FP.i2d ((p3 &&& (15 : Int32)) - (8 : Int32)))), (.int (1 : Int32)), (.ref b1)])) rfl rfl (hb hby at_45)
    have V3 : Arv Z h3 b1 k1 .double n [(.double (FP.i2d ((p2 &&& (15 : Int32)) - (8 : Int32)))), (.double (FP.i2d ((p3 &&& (15 : Int32)) - (8 : Int32)))), (.double 0), (.double 0), (.double 0)] (.double 0) := Arv.set Ar3 q3 S3 M3 H3 G3 rfl W3 1 rfl (by show 1 < 5; decide)
    have N3 := Fr.snoc X3 N2 g_b1
    have Z3 : n0 ≤ h3.size := Nat.le_trans Z2 (Keep.of_wr W3).1
    refine go (B := T3.setTop (mkF m 46 #[.val (.int p1), .val (.int p2), .val (.int p3), .val (.int p4), .val (.int p5), .val (.int p6), .val (.int n), .val (.ref b1), .unset] [])) (fun _ k => st3 _ k) ?_
    refine go (B := T3.setTop (mkF m 48 #[.val (.int p1), .val (.int p2), .val (.int p3), .val (.int p4), .val (.int p5), .val (.int p6), .val (.int n), .val (.ref b1), .unset] [(.int n)])) (fun _ k => XS.iload X3.here hx rfl (hb hby at_46) rfl k) ?_
    refine go (B := T3.setTop (mkF m 49 #[.val (.int p1), .val (.int p2), .val (.int p3), .val (.int p4), .val (.int p5), .val (.int p6), .val (.int n), .val (.ref b1), .unset] [(.int (2 : Int32)), (.int n)])) (fun _ k => XS.iconst X3.here hx rfl (hb hby at_48) k) ?_
    by_cases hc49 : (2 : Int32) < n
    · refine go (B := T3.setTop (mkF m 52 #[.val (.int p1), .val (.int p2), .val (.int p3), .val (.int p4), .val (.int p5), .val (.int p6), .val (.int n), .val (.ref b1), .unset] [])) (fun _ k => XS.icmpNo X3.here hx rfl (hb hby at_49) rfl (tlt hc49).2.2.2 k) ?_
      refine go (B := T3.setTop (mkF m 54 #[.val (.int p1), .val (.int p2), .val (.int p3), .val (.int p4), .val (.int p5), .val (.int p6), .val (.int n), .val (.ref b1), .unset] [(.ref b1)])) (fun _ k => XS.aload X3.here hx rfl (hb hby at_52) rfl rfl k) ?_
      refine go (B := T3.setTop (mkF m 55 #[.val (.int p1), .val (.int p2), .val (.int p3), .val (.int p4), .val (.int p5), .val (.int p6), .val (.int n), .val (.ref b1), .unset] [(.int (2 : Int32)), (.ref b1)])) (fun _ k => XS.iconst X3.here hx rfl (hb hby at_54) k) ?_
      refine go (B := T3.setTop (mkF m 56 #[.val (.int p1), .val (.int p2), .val (.int p3), .val (.int p4), .val (.int p5), .val (.int p6), .val (.int n), .val (.ref b1), .unset] [(.int p4), (.int (2 : Int32)), (.ref b1)])) (fun _ k => XS.iloadN X3.here hx rfl (hb hby at_55) rfl k) ?_
      refine go (B := T3.setTop (mkF m 58 #[.val (.int p1), .val (.int p2), .val (.int p3), .val (.int p4), .val (.int p5), .val (.int p6), .val (.int n), .val (.ref b1), .unset] [(.int (15 : Int32)), (.int p4), (.int (2 : Int32)), (.ref b1)])) (fun _ k => XS.bipush X3.here hx rfl (hb hby at_56) k) ?_
      refine go (B := T3.setTop (mkF m 59 #[.val (.int p1), .val (.int p2), .val (.int p3), .val (.int p4), .val (.int p5), .val (.int p6), .val (.int n), .val (.ref b1), .unset] [(.int (p4 &&& (15 : Int32))), (.int (2 : Int32)), (.ref b1)])) (fun _ k => XS.iand X3.here hx rfl (hb hby at_58) rfl k) ?_
      refine go (B := T3.setTop (mkF m 61 #[.val (.int p1), .val (.int p2), .val (.int p3), .val (.int p4), .val (.int p5), .val (.int p6), .val (.int n), .val (.ref b1), .unset] [(.int (8 : Int32)), (.int (p4 &&& (15 : Int32))), (.int (2 : Int32)), (.ref b1)])) (fun _ k => XS.bipush X3.here hx rfl (hb hby at_59) k) ?_
      refine go (B := T3.setTop (mkF m 62 #[.val (.int p1), .val (.int p2), .val (.int p3), .val (.int p4), .val (.int p5), .val (.int p6), .val (.int n), .val (.ref b1), .unset] [(.int ((p4 &&& (15 : Int32)) - (8 : Int32))), (.int (2 : Int32)), (.ref b1)])) (fun _ k => XS.isub X3.here hx rfl (hb hby at_61) rfl k) ?_
      refine go (B := T3.setTop (mkF m 63 #[.val (.int p1), .val (.int p2), .val (.int p3), .val (.int p4), .val (.int p5), .val (.int p6), .val (.int n), .val (.ref b1), .unset] [(.double (FP.i2d ((p4 &&& (15 : Int32)) - (8 : Int32)))), (.int (2 : Int32)), (.ref b1)])) (fun _ k => XD.i2d X3.here hx rfl (hb hby at_62) rfl k) ?_
      obtain ⟨cl4, Ar4, q4, S4, M4, H4, G4⟩ := V3
      obtain ⟨T4, h4, X4, e4, W4, st4⟩ := stD X3 hx hZ e3 Ar4 (j := (2 : Int32)) (inb_of S4 ⟨by decide, hc49⟩) (g := (mkF m 63 #[.val (.int p1), .val (.int p2), .val (.int p3), .val (.int p4), .val (.int p5), .val (.int p6), .val (.int n), .val (.ref b1), .unset] [(.double (FP.i2d ((p4 &&& (15 : Int32)) - (8 : Int32)))), (.int (2 : Int32)), (.ref b1)])) rfl rfl (hb hby at_63)
      have V4 : Arv Z h4 b1 k1 .double n [(.double (FP.i2d ((p2 &&& (15 : Int32)) - (8 : Int32)))), (.double (FP.i2d ((p3 &&& (15 : Int32)) - (8 : Int32)))), (.double (FP.i2d ((p4 &&& (15 : Int32)) - (8 : Int32)))), (.double 0), (.double 0)] (.double 0) := Arv.set Ar4 q4 S4 M4 H4 G4 rfl W4 2 rfl (by show 2 < 5; decide)
      have N4 := Fr.snoc X4 N3 g_b1
      have Z4 : n0 ≤ h4.size := Nat.le_trans Z3 (Keep.of_wr W4).1
      refine go (B := T4.setTop (mkF m 64 #[.val (.int p1), .val (.int p2), .val (.int p3), .val (.int p4), .val (.int p5), .val (.int p6), .val (.int n), .val (.ref b1), .unset] [])) (fun _ k => st4 _ k) ?_
      refine go (B := T4.setTop (mkF m 66 #[.val (.int p1), .val (.int p2), .val (.int p3), .val (.int p4), .val (.int p5), .val (.int p6), .val (.int n), .val (.ref b1), .unset] [(.int n)])) (fun _ k => XS.iload X4.here hx rfl (hb hby at_64) rfl k) ?_
      refine go (B := T4.setTop (mkF m 67 #[.val (.int p1), .val (.int p2), .val (.int p3), .val (.int p4), .val (.int p5), .val (.int p6), .val (.int n), .val (.ref b1), .unset] [(.int (3 : Int32)), (.int n)])) (fun _ k => XS.iconst X4.here hx rfl (hb hby at_66) k) ?_
      by_cases hc67 : (3 : Int32) < n
      · refine go (B := T4.setTop (mkF m 70 #[.val (.int p1), .val (.int p2), .val (.int p3), .val (.int p4), .val (.int p5), .val (.int p6), .val (.int n), .val (.ref b1), .unset] [])) (fun _ k => XS.icmpNo X4.here hx rfl (hb hby at_67) rfl (tlt hc67).2.2.2 k) ?_
        refine go (B := T4.setTop (mkF m 72 #[.val (.int p1), .val (.int p2), .val (.int p3), .val (.int p4), .val (.int p5), .val (.int p6), .val (.int n), .val (.ref b1), .unset] [(.ref b1)])) (fun _ k => XS.aload X4.here hx rfl (hb hby at_70) rfl rfl k) ?_
        refine go (B := T4.setTop (mkF m 73 #[.val (.int p1), .val (.int p2), .val (.int p3), .val (.int p4), .val (.int p5), .val (.int p6), .val (.int n), .val (.ref b1), .unset] [(.int (3 : Int32)), (.ref b1)])) (fun _ k => XS.iconst X4.here hx rfl (hb hby at_72) k) ?_
        refine go (B := T4.setTop (mkF m 75 #[.val (.int p1), .val (.int p2), .val (.int p3), .val (.int p4), .val (.int p5), .val (.int p6), .val (.int n), .val (.ref b1), .unset] [(.int p5), (.int (3 : Int32)), (.ref b1)])) (fun _ k => XS.iload X4.here hx rfl (hb hby at_73) rfl k) ?_
        refine go (B := T4.setTop (mkF m 77 #[.val (.int p1), .val (.int p2), .val (.int p3), .val (.int p4), .val (.int p5), .val (.int p6), .val (.int n), .val (.ref b1), .unset] [(.int (15 : Int32)), (.int p5), (.int (3 : Int32)), (.ref b1)])) (fun _ k => XS.bipush X4.here hx rfl (hb hby at_75) k) ?_
        refine go (B := T4.setTop (mkF m 78 #[.val (.int p1), .val (.int p2), .val (.int p3), .val (.int p4), .val (.int p5), .val (.int p6), .val (.int n), .val (.ref b1), .unset] [(.int (p5 &&& (15 : Int32))), (.int (3 : Int32)), (.ref b1)])) (fun _ k => XS.iand X4.here hx rfl (hb hby at_77) rfl k) ?_
        refine go (B := T4.setTop (mkF m 80 #[.val (.int p1), .val (.int p2), .val (.int p3), .val (.int p4), .val (.int p5), .val (.int p6), .val (.int n), .val (.ref b1), .unset] [(.int (8 : Int32)), (.int (p5 &&& (15 : Int32))), (.int (3 : Int32)), (.ref b1)])) (fun _ k => XS.bipush X4.here hx rfl (hb hby at_78) k) ?_
        refine go (B := T4.setTop (mkF m 81 #[.val (.int p1), .val (.int p2), .val (.int p3), .val (.int p4), .val (.int p5), .val (.int p6), .val (.int n), .val (.ref b1), .unset] [(.int ((p5 &&& (15 : Int32)) - (8 : Int32))), (.int (3 : Int32)), (.ref b1)])) (fun _ k => XS.isub X4.here hx rfl (hb hby at_80) rfl k) ?_
        refine go (B := T4.setTop (mkF m 82 #[.val (.int p1), .val (.int p2), .val (.int p3), .val (.int p4), .val (.int p5), .val (.int p6), .val (.int n), .val (.ref b1), .unset] [(.double (FP.i2d ((p5 &&& (15 : Int32)) - (8 : Int32)))), (.int (3 : Int32)), (.ref b1)])) (fun _ k => XD.i2d X4.here hx rfl (hb hby at_81) rfl k) ?_
        obtain ⟨cl5, Ar5, q5, S5, M5, H5, G5⟩ := V4
        obtain ⟨T5, h5, X5, e5, W5, st5⟩ := stD X4 hx hZ e4 Ar5 (j := (3 : Int32)) (inb_of S5 ⟨by decide, hc67⟩) (g := (mkF m 82 #[.val (.int p1), .val (.int p2), .val (.int p3), .val (.int p4), .val (.int p5), .val (.int p6), .val (.int n), .val (.ref b1), .unset] [(.double (FP.i2d ((p5 &&& (15 : Int32)) - (8 : Int32)))), (.int (3 : Int32)), (.ref b1)])) rfl rfl (hb hby at_82)
        have V5 : Arv Z h5 b1 k1 .double n [(.double (FP.i2d ((p2 &&& (15 : Int32)) - (8 : Int32)))), (.double (FP.i2d ((p3 &&& (15 : Int32)) - (8 : Int32)))), (.double (FP.i2d ((p4 &&& (15 : Int32)) - (8 : Int32)))), (.double (FP.i2d ((p5 &&& (15 : Int32)) - (8 : Int32)))), (.double 0)] (.double 0) := Arv.set Ar5 q5 S5 M5 H5 G5 rfl W5 3 rfl (by show 3 < 5; decide)
        have N5 := Fr.snoc X5 N4 g_b1
        have Z5 : n0 ≤ h5.size := Nat.le_trans Z4 (Keep.of_wr W5).1
        refine go (B := T5.setTop (mkF m 83 #[.val (.int p1), .val (.int p2), .val (.int p3), .val (.int p4), .val (.int p5), .val (.int p6), .val (.int n), .val (.ref b1), .unset] [])) (fun _ k => st5 _ k) ?_
        refine go (B := T5.setTop (mkF m 85 #[.val (.int p1), .val (.int p2), .val (.int p3), .val (.int p4), .val (.int p5), .val (.int p6), .val (.int n), .val (.ref b1), .unset] [(.int n)])) (fun _ k => XS.iload X5.here hx rfl (hb hby at_83) rfl k) ?_
        refine go (B := T5.setTop (mkF m 86 #[.val (.int p1), .val (.int p2), .val (.int p3), .val (.int p4), .val (.int p5), .val (.int p6), .val (.int n), .val (.ref b1), .unset] [(.int (4 : Int32)), (.int n)])) (fun _ k => XS.iconst X5.here hx rfl (hb hby at_85) k) ?_
        by_cases hc86 : (4 : Int32) < n
        · refine go (B := T5.setTop (mkF m 89 #[.val (.int p1), .val (.int p2), .val (.int p3), .val (.int p4), .val (.int p5), .val (.int p6), .val (.int n), .val (.ref b1), .unset] [])) (fun _ k => XS.icmpNo X5.here hx rfl (hb hby at_86) rfl (tlt hc86).2.2.2 k) ?_
          refine go (B := T5.setTop (mkF m 91 #[.val (.int p1), .val (.int p2), .val (.int p3), .val (.int p4), .val (.int p5), .val (.int p6), .val (.int n), .val (.ref b1), .unset] [(.ref b1)])) (fun _ k => XS.aload X5.here hx rfl (hb hby at_89) rfl rfl k) ?_
          refine go (B := T5.setTop (mkF m 92 #[.val (.int p1), .val (.int p2), .val (.int p3), .val (.int p4), .val (.int p5), .val (.int p6), .val (.int n), .val (.ref b1), .unset] [(.int (4 : Int32)), (.ref b1)])) (fun _ k => XS.iconst X5.here hx rfl (hb hby at_91) k) ?_
          refine go (B := T5.setTop (mkF m 94 #[.val (.int p1), .val (.int p2), .val (.int p3), .val (.int p4), .val (.int p5), .val (.int p6), .val (.int n), .val (.ref b1), .unset] [(.int p6), (.int (4 : Int32)), (.ref b1)])) (fun _ k => XS.iload X5.here hx rfl (hb hby at_92) rfl k) ?_
          refine go (B := T5.setTop (mkF m 96 #[.val (.int p1), .val (.int p2), .val (.int p3), .val (.int p4), .val (.int p5), .val (.int p6), .val (.int n), .val (.ref b1), .unset] [(.int (15 : Int32)), (.int p6), (.int (4 : Int32)), (.ref b1)])) (fun _ k => XS.bipush X5.here hx rfl (hb hby at_94) k) ?_
          refine go (B := T5.setTop (mkF m 97 #[.val (.int p1), .val (.int p2), .val (.int p3), .val (.int p4), .val (.int p5), .val (.int p6), .val (.int n), .val (.ref b1), .unset] [(.int (p6 &&& (15 : Int32))), (.int (4 : Int32)), (.ref b1)])) (fun _ k => XS.iand X5.here hx rfl (hb hby at_96) rfl k) ?_
          refine go (B := T5.setTop (mkF m 99 #[.val (.int p1), .val (.int p2), .val (.int p3), .val (.int p4), .val (.int p5), .val (.int p6), .val (.int n), .val (.ref b1), .unset] [(.int (8 : Int32)), (.int (p6 &&& (15 : Int32))), (.int (4 : Int32)), (.ref b1)])) (fun _ k => XS.bipush X5.here hx rfl (hb hby at_97) k) ?_
          refine go (B := T5.setTop (mkF m 100 #[.val (.int p1), .val (.int p2), .val (.int p3), .val (.int p4), .val (.int p5), .val (.int p6), .val (.int n), .val (.ref b1), .unset] [(.int ((p6 &&& (15 : Int32)) - (8 : Int32))), (.int (4 : Int32)), (.ref b1)])) (fun _ k => XS.isub X5.here hx rfl (hb hby at_99) rfl k) ?_
          refine go (B := T5.setTop (mkF m 101 #[.val (.int p1), .val (.int p2), .val (.int p3), .val (.int p4), .val (.int p5), .val (.int p6), .val (.int n), .val (.ref b1), .unset] [(.double (FP.i2d ((p6 &&& (15 : Int32)) - (8 : Int32)))), (.int (4 : Int32)), (.ref b1)])) (fun _ k => XD.i2d X5.here hx rfl (hb hby at_100) rfl k) ?_
          obtain ⟨cl6, Ar6, q6, S6, M6, H6, G6⟩ := V5
          obtain ⟨T6, h6, X6, e6, W6, st6⟩ := stD X5 hx hZ e5 Ar6 (j := (4 : Int32)) (inb_of S6 ⟨by decide, hc86⟩) (g := (mkF m 101 #[.val (.int p1), .val (.int p2), .val (.int p3), .val (.int p4), .val (.int p5), .val (.int p6), .val (.int n), .val (.ref b1), .unset] [(.double (FP.i2d ((p6 &&& (15 : Int32)) - (8 : Int32)))), (.int (4 : Int32)), (.ref b1)])) rfl rfl (hb hby at_101)
          have V6 : Arv Z h6 b1 k1 .double n [(.double (FP.i2d ((p2 &&& (15 : Int32)) - (8 : Int32)))), (.double (FP.i2d ((p3 &&& (15 : Int32)) - (8 : Int32)))), (.double (FP.i2d ((p4 &&& (15 : Int32)) - (8 : Int32)))), (.double (FP.i2d ((p5 &&& (15 : Int32)) - (8 : Int32)))), (.double (FP.i2d ((p6 &&& (15 : Int32)) - (8 : Int32))))] (.double 0) := Arv.set Ar6 q6 S6 M6 H6 G6 rfl W6 4 rfl (by show 4 < 5; decide)
          have N6 := Fr.snoc X6 N5 g_b1
          have Z6 : n0 ≤ h6.size := Nat.le_trans Z5 (Keep.of_wr W6).1
          refine go (B := T6.setTop (mkF m 102 #[.val (.int p1), .val (.int p2), .val (.int p3), .val (.int p4), .val (.int p5), .val (.int p6), .val (.int n), .val (.ref b1), .unset] [])) (fun _ k => st6 _ k) ?_
          have hn : n = (5 : Int32) := by
            simp only [Int32.lt_iff_toInt_lt, Int64.lt_iff_toInt_lt, ← Int32.toInt_inj, ← Int64.toInt_inj, Int32.reduceToInt, Int64.reduceToInt] at hc31 hc49 hc67 hc86
            rw [← Int32.toInt_inj]
            have c : (5 : Int32).toInt = 5 := by decide
            omega
          subst hn
          have DA : DArr Z h6 b1 [(((p2 &&& (15 : Int32)) - (8 : Int32)).toInt), (((p3 &&& (15 : Int32)) - (8 : Int32)).toInt), (((p4 &&& (15 : Int32)) - (8 : Int32)).toInt), (((p5 &&& (15 : Int32)) - (8 : Int32)).toInt), (((p6 &&& (15 : Int32)) - (8 : Int32)).toInt)] := DArr.of V6 rfl ⟨⟨_, rfl, (FP.Core.i2d_int ((p2 &&& (15 : Int32)) - (8 : Int32)))⟩, ⟨_, rfl, (FP.Core.i2d_int ((p3 &&& (15 : Int32)) - (8 : Int32)))⟩, ⟨_, rfl, (FP.Core.i2d_int ((p4 &&& (15 : Int32)) - (8 : Int32)))⟩, ⟨_, rfl, (FP.Core.i2d_int ((p5 &&& (15 : Int32)) - (8 : Int32)))⟩, ⟨_, rfl, (FP.Core.i2d_int ((p6 &&& (15 : Int32)) - (8 : Int32)))⟩, trivial⟩
          refine go (B := T6.setTop (mkF m 104 #[.val (.int p1), .val (.int p2), .val (.int p3), .val (.int p4), .val (.int p5), .val (.int p6), .val (.int (5 : Int32)), .val (.ref b1), .unset] [(.ref b1)])) (fun _ k => XS.aload X6.here hx rfl (hb hby at_102) rfl rfl k) ?_
          obtain ⟨_, _, ⟨T7, L7, k7, n7⟩, -, X7, ⟨Lc7, hQ7, l7, y7, z7⟩, st7⟩ := Jvm.LawKit.callS X6 hx (y := (⟨"com/example/cladestream/cladestream/Particles", "best", "([D)I"⟩ : MethodName)) hown (mvT hZ (hw _ (List.mem_of_getElem? (i := 2) rfl))) (mvT hZ (hw _ (List.mem_of_getElem? (i := 3) rfl))) (mvT hZ (hw _ (List.mem_of_getElem? (i := 4) rfl))) (mvT hZ (hw _ (List.mem_of_getElem? (i := 5) rfl))) (by decide) (backOf (W := 0) (rm1 l Z a0 hw [] b1 [(((p2 &&& (15 : Int32)) - (8 : Int32)).toInt), (((p3 &&& (15 : Int32)) - (8 : Int32)).toInt), (((p4 &&& (15 : Int32)) - (8 : Int32)).toInt), (((p5 &&& (15 : Int32)) - (8 : Int32)).toInt), (((p6 &&& (15 : Int32)) - (8 : Int32)).toInt)] h6 n0 Z6 DA (by show 5 < 2 ^ 31; decide) (by show 0 < 5; decide)) hZ (hw _ (List.mem_of_getElem? (i := 5) rfl)) (hw _ (List.mem_of_getElem? (i := 4) rfl)) (by decide) (by decide)) (g := (mkF m 104 #[.val (.int p1), .val (.int p2), .val (.int p3), .val (.int p4), .val (.int p5), .val (.int p6), .val (.int (5 : Int32)), .val (.ref b1), .unset] [(.ref b1)])) rfl (by rw [hml]; rfl) (argsL := [(.ref b1)]) (rest := []) (lenOf pd___D_I rfl) rfl (by show 2 * 0 + _ ≤ _; exact Nat.le_of_eq rfl) (hb hby at_104) (fun _ _ => ⟨rfl, e6, (by decide : 1 + 0 ≤ _), (by decide : 5 + 0 ≤ _)⟩)
          dsimp only [Pt.U, Pt.locs, Pt.cells, Pt.slots] at X7 l7 y7 z7 st7 hQ7
          subst l7 y7 z7
          obtain ⟨r, rfl, N7q, eB, hr0, hr1, hr2⟩ := hQ7
          have N7 := Fr.app N6 N7q
          refine go (B := T7.setTop (mkF m 107 #[.val (.int p1), .val (.int p2), .val (.int p3), .val (.int p4), .val (.int p5), .val (.int p6), .val (.int (5 : Int32)), .val (.ref b1), .unset] [(.int (r.toInt32))])) (fun _ k => st7 _ k) ?_
          refine go (B := T7.setTop (mkF m 109 #[.val (.int p1), .val (.int p2), .val (.int p3), .val (.int p4), .val (.int p5), .val (.int p6), .val (.int (5 : Int32)), .val (.ref b1), .val (.int (r.toInt32))] [])) (fun _ k => XS.istore X7.here hx rfl (hb hby at_107) rfl (l' := #[.val (.int p1), .val (.int p2), .val (.int p3), .val (.int p4), .val (.int p5), .val (.int p6), .val (.int (5 : Int32)), .val (.ref b1), .val (.int (r.toInt32))]) rfl k) ?_
          refine go (B := T7.setTop (mkF m 111 #[.val (.int p1), .val (.int p2), .val (.int p3), .val (.int p4), .val (.int p5), .val (.int p6), .val (.int (5 : Int32)), .val (.ref b1), .val (.int (r.toInt32))] [(.int (r.toInt32))])) (fun _ k => XS.iload X7.here hx rfl (hb hby at_109) rfl k) ?_
          have hc111 : ¬ ((r.toInt32) < (0 : Int32)) := (fun q => by have z : r < 5 := hr0; rw [Int32.lt_iff_toInt_lt, len_toInt (by omega)] at q; have c0 : (0 : Int32).toInt = 0 := (by decide); omega)
          refine go (B := T7.setTop (mkF m 114 #[.val (.int p1), .val (.int p2), .val (.int p3), .val (.int p4), .val (.int p5), .val (.int p6), .val (.int (5 : Int32)), .val (.ref b1), .val (.int (r.toInt32))] [])) (fun _ k => XS.ifNo X7.here hx rfl (hb hby at_111) rfl ((if0 _ _).trans (flt hc111).1) k) ?_
          refine go (B := T7.setTop (mkF m 116 #[.val (.int p1), .val (.int p2), .val (.int p3), .val (.int p4), .val (.int p5), .val (.int p6), .val (.int (5 : Int32)), .val (.ref b1), .val (.int (r.toInt32))] [(.int (r.toInt32))])) (fun _ k => XS.iload X7.here hx rfl (hb hby at_114) rfl k) ?_
          refine go (B := T7.setTop (mkF m 118 #[.val (.int p1), .val (.int p2), .val (.int p3), .val (.int p4), .val (.int p5), .val (.int p6), .val (.int (5 : Int32)), .val (.ref b1), .val (.int (r.toInt32))] [(.int (5 : Int32)), (.int (r.toInt32))])) (fun _ k => XS.iload X7.here hx rfl (hb hby at_116) rfl k) ?_
          have hc118 : (r.toInt32) < (5 : Int32) := (ltN (i := r) (j := 5) (Nat.lt_trans (show r < 5 from hr0) (by decide)) (by decide)).mpr hr0
          refine go (B := T7.setTop (mkF m 123 #[.val (.int p1), .val (.int p2), .val (.int p3), .val (.int p4), .val (.int p5), .val (.int p6), .val (.int (5 : Int32)), .val (.ref b1), .val (.int (r.toInt32))] [])) (fun _ k => XS.icmpYes X7.here hx rfl (pc0 := 118) (pc' := 123) rfl (hb hby at_118) rfl (tlt hc118).1 (by decide) (by decide) k) ?_
          refine go (B := T7.setTop (mkF m 125 #[.val (.int p1), .val (.int p2), .val (.int p3), .val (.int p4), .val (.int p5), .val (.int p6), .val (.int (5 : Int32)), .val (.ref b1), .val (.int (r.toInt32))] [(.ref b1)])) (fun _ k => XS.aload X7.here hx rfl (hb hby at_123) rfl rfl k) ?_
          refine go (B := T7.setTop (mkF m 127 #[.val (.int p1), .val (.int p2), .val (.int p3), .val (.int p4), .val (.int p5), .val (.int p6), .val (.int (5 : Int32)), .val (.ref b1), .val (.int (r.toInt32))] [(.int (5 : Int32)), (.ref b1)])) (fun _ k => XS.iload X7.here hx rfl (hb hby at_125) rfl k) ?_
          refine go (B := T7.setTop (mkF m 129 #[.val (.int p1), .val (.int p2), .val (.int p3), .val (.int p4), .val (.int p5), .val (.int p6), .val (.int (5 : Int32)), .val (.ref b1), .val (.int (r.toInt32))] [(.int (r.toInt32)), (.int (5 : Int32)), (.ref b1)])) (fun _ k => XS.iload X7.here hx rfl (hb hby at_127) rfl k) ?_
          refine go (B := T7.setTop (mkF m 130 #[.val (.int p1), .val (.int p2), .val (.int p3), .val (.int p4), .val (.int p5), .val (.int p6), .val (.int (5 : Int32)), .val (.ref b1), .val (.int (r.toInt32))] [(.int (0 : Int32)), (.int (r.toInt32)), (.int (5 : Int32)), (.ref b1)])) (fun _ k => XS.iconst X7.here hx rfl (hb hby at_129) k) ?_
          obtain ⟨_, _, ⟨T8, L8, k8, n8⟩, -, X8, ⟨Lc8, hQ8, l8, y8, z8⟩, st8⟩ := Jvm.LawKit.callS X7 hx (y := (⟨"com/example/cladestream/cladestream/ParticlesBestPinLaw", "ok", "([DIII)Z"⟩ : MethodName)) hown (mvT hZ (hw _ (List.mem_of_getElem? (i := 6) rfl))) (mvT hZ (hw _ (List.mem_of_getElem? (i := 7) rfl))) (mvT hZ (hw _ (List.mem_of_getElem? (i := 8) rfl))) (mvT hZ (hw _ (List.mem_of_getElem? (i := 9) rfl))) (by decide) (backOf (W := 0) (rm2 l Z a0 hw [] b1 (5 : Int32) (r.toInt32) (0 : Int32) [(((p2 &&& (15 : Int32)) - (8 : Int32)).toInt), (((p3 &&& (15 : Int32)) - (8 : Int32)).toInt), (((p4 &&& (15 : Int32)) - (8 : Int32)).toInt), (((p5 &&& (15 : Int32)) - (8 : Int32)).toInt), (((p6 &&& (15 : Int32)) - (8 : Int32)).toInt)] r 0 h6 n0 Z6 DA (by show 5 < 2 ^ 31; decide) hr0 (by decide) rfl rfl rfl) hZ (hw _ (List.mem_of_getElem? (i := 9) rfl)) (hw _ (List.mem_of_getElem? (i := 8) rfl)) (by decide) (by decide)) (g := (mkF m 130 #[.val (.int p1), .val (.int p2), .val (.int p3), .val (.int p4), .val (.int p5), .val (.int p6), .val (.int (5 : Int32)), .val (.ref b1), .val (.int (r.toInt32))] [(.int (0 : Int32)), (.int (r.toInt32)), (.int (5 : Int32)), (.ref b1)])) rfl (by rw [hml]; rfl) (argsL := [(.ref b1), (.int (5 : Int32)), (.int (r.toInt32)), (.int (0 : Int32))]) (rest := []) (lenOf pd___DIII_Z rfl) rfl (by show 2 * 0 + _ ≤ _; exact Nat.le_of_eq rfl) (hb hby at_130) (fun _ _ => ⟨rfl, eB, (by decide : 1 + 0 ≤ _), (by decide : 5 + 0 ≤ _)⟩)
          dsimp only [Pt.U, Pt.locs, Pt.cells, Pt.slots] at X8 l8 y8 z8 st8 hQ8
          subst l8 y8 z8
          obtain ⟨rfl, N8q, e8⟩ := hQ8
          have N8 := Fr.app N7 N8q
          refine go (B := T8.setTop (mkF m 133 #[.val (.int p1), .val (.int p2), .val (.int p3), .val (.int p4), .val (.int p5), .val (.int p6), .val (.int (5 : Int32)), .val (.ref b1), .val (.int (r.toInt32))] [(.int (okF [(((p2 &&& (15 : Int32)) - (8 : Int32)).toInt), (((p3 &&& (15 : Int32)) - (8 : Int32)).toInt), (((p4 &&& (15 : Int32)) - (8 : Int32)).toInt), (((p5 &&& (15 : Int32)) - (8 : Int32)).toInt), (((p6 &&& (15 : Int32)) - (8 : Int32)).toInt)] r 0))])) (fun _ k => st8 _ k) ?_
          have hc133 : ¬ ((okF [(((p2 &&& (15 : Int32)) - (8 : Int32)).toInt), (((p3 &&& (15 : Int32)) - (8 : Int32)).toInt), (((p4 &&& (15 : Int32)) - (8 : Int32)).toInt), (((p5 &&& (15 : Int32)) - (8 : Int32)).toInt), (((p6 &&& (15 : Int32)) - (8 : Int32)).toInt)] r 0) = (0 : Int32)) := okF_one hr1 hr2 _
          refine go (B := T8.setTop (mkF m 136 #[.val (.int p1), .val (.int p2), .val (.int p3), .val (.int p4), .val (.int p5), .val (.int p6), .val (.int (5 : Int32)), .val (.ref b1), .val (.int (r.toInt32))] [])) (fun _ k => XS.ifNo X8.here hx rfl (hb hby at_133) rfl ((if0 _ _).trans (feq hc133).1) k) ?_
          refine go (B := T8.setTop (mkF m 138 #[.val (.int p1), .val (.int p2), .val (.int p3), .val (.int p4), .val (.int p5), .val (.int p6), .val (.int (5 : Int32)), .val (.ref b1), .val (.int (r.toInt32))] [(.ref b1)])) (fun _ k => XS.aload X8.here hx rfl (hb hby at_136) rfl rfl k) ?_
          refine go (B := T8.setTop (mkF m 140 #[.val (.int p1), .val (.int p2), .val (.int p3), .val (.int p4), .val (.int p5), .val (.int p6), .val (.int (5 : Int32)), .val (.ref b1), .val (.int (r.toInt32))] [(.int (5 : Int32)), (.ref b1)])) (fun _ k => XS.iload X8.here hx rfl (hb hby at_138) rfl k) ?_
          refine go (B := T8.setTop (mkF m 142 #[.val (.int p1), .val (.int p2), .val (.int p3), .val (.int p4), .val (.int p5), .val (.int p6), .val (.int (5 : Int32)), .val (.ref b1), .val (.int (r.toInt32))] [(.int (r.toInt32)), (.int (5 : Int32)), (.ref b1)])) (fun _ k => XS.iload X8.here hx rfl (hb hby at_140) rfl k) ?_
          refine go (B := T8.setTop (mkF m 143 #[.val (.int p1), .val (.int p2), .val (.int p3), .val (.int p4), .val (.int p5), .val (.int p6), .val (.int (5 : Int32)), .val (.ref b1), .val (.int (r.toInt32))] [(.int (1 : Int32)), (.int (r.toInt32)), (.int (5 : Int32)), (.ref b1)])) (fun _ k => XS.iconst X8.here hx rfl (hb hby at_142) k) ?_
          obtain ⟨_, _, ⟨T9, L9, k9, n9⟩, -, X9, ⟨Lc9, hQ9, l9, y9, z9⟩, st9⟩ := Jvm.LawKit.callS X8 hx (y := (⟨"com/example/cladestream/cladestream/ParticlesBestPinLaw", "ok", "([DIII)Z"⟩ : MethodName)) hown (mvT hZ (hw _ (List.mem_of_getElem? (i := 6) rfl))) (mvT hZ (hw _ (List.mem_of_getElem? (i := 7) rfl))) (mvT hZ (hw _ (List.mem_of_getElem? (i := 8) rfl))) (mvT hZ (hw _ (List.mem_of_getElem? (i := 9) rfl))) (by decide) (backOf (W := 0) (rm2 l Z a0 hw [] b1 (5 : Int32) (r.toInt32) (1 : Int32) [(((p2 &&& (15 : Int32)) - (8 : Int32)).toInt), (((p3 &&& (15 : Int32)) - (8 : Int32)).toInt), (((p4 &&& (15 : Int32)) - (8 : Int32)).toInt), (((p5 &&& (15 : Int32)) - (8 : Int32)).toInt), (((p6 &&& (15 : Int32)) - (8 : Int32)).toInt)] r 1 h6 n0 Z6 DA (by show 5 < 2 ^ 31; decide) hr0 (by decide) rfl rfl rfl) hZ (hw _ (List.mem_of_getElem? (i := 9) rfl)) (hw _ (List.mem_of_getElem? (i := 8) rfl)) (by decide) (by decide)) (g := (mkF m 143 #[.val (.int p1), .val (.int p2), .val (.int p3), .val (.int p4), .val (.int p5), .val (.int p6), .val (.int (5 : Int32)), .val (.ref b1), .val (.int (r.toInt32))] [(.int (1 : Int32)), (.int (r.toInt32)), (.int (5 : Int32)), (.ref b1)])) rfl (by rw [hml]; rfl) (argsL := [(.ref b1), (.int (5 : Int32)), (.int (r.toInt32)), (.int (1 : Int32))]) (rest := []) (lenOf pd___DIII_Z rfl) rfl (by show 2 * 0 + _ ≤ _; exact Nat.le_of_eq rfl) (hb hby at_143) (fun _ _ => ⟨rfl, e8, (by decide : 1 + 0 ≤ _), (by decide : 5 + 0 ≤ _)⟩)
          dsimp only [Pt.U, Pt.locs, Pt.cells, Pt.slots] at X9 l9 y9 z9 st9 hQ9
          subst l9 y9 z9
          obtain ⟨rfl, N9q, e9⟩ := hQ9
          have N9 := Fr.app N8 N9q
          refine go (B := T9.setTop (mkF m 146 #[.val (.int p1), .val (.int p2), .val (.int p3), .val (.int p4), .val (.int p5), .val (.int p6), .val (.int (5 : Int32)), .val (.ref b1), .val (.int (r.toInt32))] [(.int (okF [(((p2 &&& (15 : Int32)) - (8 : Int32)).toInt), (((p3 &&& (15 : Int32)) - (8 : Int32)).toInt), (((p4 &&& (15 : Int32)) - (8 : Int32)).toInt), (((p5 &&& (15 : Int32)) - (8 : Int32)).toInt), (((p6 &&& (15 : Int32)) - (8 : Int32)).toInt)] r 1))])) (fun _ k => st9 _ k) ?_
          have hc146 : ¬ ((okF [(((p2 &&& (15 : Int32)) - (8 : Int32)).toInt), (((p3 &&& (15 : Int32)) - (8 : Int32)).toInt), (((p4 &&& (15 : Int32)) - (8 : Int32)).toInt), (((p5 &&& (15 : Int32)) - (8 : Int32)).toInt), (((p6 &&& (15 : Int32)) - (8 : Int32)).toInt)] r 1) = (0 : Int32)) := okF_one hr1 hr2 _
          refine go (B := T9.setTop (mkF m 149 #[.val (.int p1), .val (.int p2), .val (.int p3), .val (.int p4), .val (.int p5), .val (.int p6), .val (.int (5 : Int32)), .val (.ref b1), .val (.int (r.toInt32))] [])) (fun _ k => XS.ifNo X9.here hx rfl (hb hby at_146) rfl ((if0 _ _).trans (feq hc146).1) k) ?_
          refine go (B := T9.setTop (mkF m 151 #[.val (.int p1), .val (.int p2), .val (.int p3), .val (.int p4), .val (.int p5), .val (.int p6), .val (.int (5 : Int32)), .val (.ref b1), .val (.int (r.toInt32))] [(.ref b1)])) (fun _ k => XS.aload X9.here hx rfl (hb hby at_149) rfl rfl k) ?_
          refine go (B := T9.setTop (mkF m 153 #[.val (.int p1), .val (.int p2), .val (.int p3), .val (.int p4), .val (.int p5), .val (.int p6), .val (.int (5 : Int32)), .val (.ref b1), .val (.int (r.toInt32))] [(.int (5 : Int32)), (.ref b1)])) (fun _ k => XS.iload X9.here hx rfl (hb hby at_151) rfl k) ?_
          refine go (B := T9.setTop (mkF m 155 #[.val (.int p1), .val (.int p2), .val (.int p3), .val (.int p4), .val (.int p5), .val (.int p6), .val (.int (5 : Int32)), .val (.ref b1), .val (.int (r.toInt32))] [(.int (r.toInt32)), (.int (5 : Int32)), (.ref b1)])) (fun _ k => XS.iload X9.here hx rfl (hb hby at_153) rfl k) ?_
          refine go (B := T9.setTop (mkF m 156 #[.val (.int p1), .val (.int p2), .val (.int p3), .val (.int p4), .val (.int p5), .val (.int p6), .val (.int (5 : Int32)), .val (.ref b1), .val (.int (r.toInt32))] [(.int (2 : Int32)), (.int (r.toInt32)), (.int (5 : Int32)), (.ref b1)])) (fun _ k => XS.iconst X9.here hx rfl (hb hby at_155) k) ?_
          obtain ⟨_, _, ⟨T10, L10, k10, n10⟩, -, X10, ⟨Lc10, hQ10, l10, y10, z10⟩, st10⟩ := Jvm.LawKit.callS X9 hx (y := (⟨"com/example/cladestream/cladestream/ParticlesBestPinLaw", "ok", "([DIII)Z"⟩ : MethodName)) hown (mvT hZ (hw _ (List.mem_of_getElem? (i := 6) rfl))) (mvT hZ (hw _ (List.mem_of_getElem? (i := 7) rfl))) (mvT hZ (hw _ (List.mem_of_getElem? (i := 8) rfl))) (mvT hZ (hw _ (List.mem_of_getElem? (i := 9) rfl))) (by decide) (backOf (W := 0) (rm2 l Z a0 hw [] b1 (5 : Int32) (r.toInt32) (2 : Int32) [(((p2 &&& (15 : Int32)) - (8 : Int32)).toInt), (((p3 &&& (15 : Int32)) - (8 : Int32)).toInt), (((p4 &&& (15 : Int32)) - (8 : Int32)).toInt), (((p5 &&& (15 : Int32)) - (8 : Int32)).toInt), (((p6 &&& (15 : Int32)) - (8 : Int32)).toInt)] r 2 h6 n0 Z6 DA (by show 5 < 2 ^ 31; decide) hr0 (by decide) rfl rfl rfl) hZ (hw _ (List.mem_of_getElem? (i := 9) rfl)) (hw _ (List.mem_of_getElem? (i := 8) rfl)) (by decide) (by decide)) (g := (mkF m 156 #[.val (.int p1), .val (.int p2), .val (.int p3), .val (.int p4), .val (.int p5), .val (.int p6), .val (.int (5 : Int32)), .val (.ref b1), .val (.int (r.toInt32))] [(.int (2 : Int32)), (.int (r.toInt32)), (.int (5 : Int32)), (.ref b1)])) rfl (by rw [hml]; rfl) (argsL := [(.ref b1), (.int (5 : Int32)), (.int (r.toInt32)), (.int (2 : Int32))]) (rest := []) (lenOf pd___DIII_Z rfl) rfl (by show 2 * 0 + _ ≤ _; exact Nat.le_of_eq rfl) (hb hby at_156) (fun _ _ => ⟨rfl, e9, (by decide : 1 + 0 ≤ _), (by decide : 5 + 0 ≤ _)⟩)
          dsimp only [Pt.U, Pt.locs, Pt.cells, Pt.slots] at X10 l10 y10 z10 st10 hQ10
          subst l10 y10 z10
          obtain ⟨rfl, N10q, e10⟩ := hQ10
          have N10 := Fr.app N9 N10q
          refine go (B := T10.setTop (mkF m 159 #[.val (.int p1), .val (.int p2), .val (.int p3), .val (.int p4), .val (.int p5), .val (.int p6), .val (.int (5 : Int32)), .val (.ref b1), .val (.int (r.toInt32))] [(.int (okF [(((p2 &&& (15 : Int32)) - (8 : Int32)).toInt), (((p3 &&& (15 : Int32)) - (8 : Int32)).toInt), (((p4 &&& (15 : Int32)) - (8 : Int32)).toInt), (((p5 &&& (15 : Int32)) - (8 : Int32)).toInt), (((p6 &&& (15 : Int32)) - (8 : Int32)).toInt)] r 2))])) (fun _ k => st10 _ k) ?_
          have hc159 : ¬ ((okF [(((p2 &&& (15 : Int32)) - (8 : Int32)).toInt), (((p3 &&& (15 : Int32)) - (8 : Int32)).toInt), (((p4 &&& (15 : Int32)) - (8 : Int32)).toInt), (((p5 &&& (15 : Int32)) - (8 : Int32)).toInt), (((p6 &&& (15 : Int32)) - (8 : Int32)).toInt)] r 2) = (0 : Int32)) := okF_one hr1 hr2 _
          refine go (B := T10.setTop (mkF m 162 #[.val (.int p1), .val (.int p2), .val (.int p3), .val (.int p4), .val (.int p5), .val (.int p6), .val (.int (5 : Int32)), .val (.ref b1), .val (.int (r.toInt32))] [])) (fun _ k => XS.ifNo X10.here hx rfl (hb hby at_159) rfl ((if0 _ _).trans (feq hc159).1) k) ?_
          refine go (B := T10.setTop (mkF m 164 #[.val (.int p1), .val (.int p2), .val (.int p3), .val (.int p4), .val (.int p5), .val (.int p6), .val (.int (5 : Int32)), .val (.ref b1), .val (.int (r.toInt32))] [(.ref b1)])) (fun _ k => XS.aload X10.here hx rfl (hb hby at_162) rfl rfl k) ?_
          refine go (B := T10.setTop (mkF m 166 #[.val (.int p1), .val (.int p2), .val (.int p3), .val (.int p4), .val (.int p5), .val (.int p6), .val (.int (5 : Int32)), .val (.ref b1), .val (.int (r.toInt32))] [(.int (5 : Int32)), (.ref b1)])) (fun _ k => XS.iload X10.here hx rfl (hb hby at_164) rfl k) ?_
          refine go (B := T10.setTop (mkF m 168 #[.val (.int p1), .val (.int p2), .val (.int p3), .val (.int p4), .val (.int p5), .val (.int p6), .val (.int (5 : Int32)), .val (.ref b1), .val (.int (r.toInt32))] [(.int (r.toInt32)), (.int (5 : Int32)), (.ref b1)])) (fun _ k => XS.iload X10.here hx rfl (hb hby at_166) rfl k) ?_
          refine go (B := T10.setTop (mkF m 169 #[.val (.int p1), .val (.int p2), .val (.int p3), .val (.int p4), .val (.int p5), .val (.int p6), .val (.int (5 : Int32)), .val (.ref b1), .val (.int (r.toInt32))] [(.int (3 : Int32)), (.int (r.toInt32)), (.int (5 : Int32)), (.ref b1)])) (fun _ k => XS.iconst X10.here hx rfl (hb hby at_168) k) ?_
          obtain ⟨_, _, ⟨T11, L11, k11, n11⟩, -, X11, ⟨Lc11, hQ11, l11, y11, z11⟩, st11⟩ := Jvm.LawKit.callS X10 hx (y := (⟨"com/example/cladestream/cladestream/ParticlesBestPinLaw", "ok", "([DIII)Z"⟩ : MethodName)) hown (mvT hZ (hw _ (List.mem_of_getElem? (i := 6) rfl))) (mvT hZ (hw _ (List.mem_of_getElem? (i := 7) rfl))) (mvT hZ (hw _ (List.mem_of_getElem? (i := 8) rfl))) (mvT hZ (hw _ (List.mem_of_getElem? (i := 9) rfl))) (by decide) (backOf (W := 0) (rm2 l Z a0 hw [] b1 (5 : Int32) (r.toInt32) (3 : Int32) [(((p2 &&& (15 : Int32)) - (8 : Int32)).toInt), (((p3 &&& (15 : Int32)) - (8 : Int32)).toInt), (((p4 &&& (15 : Int32)) - (8 : Int32)).toInt), (((p5 &&& (15 : Int32)) - (8 : Int32)).toInt), (((p6 &&& (15 : Int32)) - (8 : Int32)).toInt)] r 3 h6 n0 Z6 DA (by show 5 < 2 ^ 31; decide) hr0 (by decide) rfl rfl rfl) hZ (hw _ (List.mem_of_getElem? (i := 9) rfl)) (hw _ (List.mem_of_getElem? (i := 8) rfl)) (by decide) (by decide)) (g := (mkF m 169 #[.val (.int p1), .val (.int p2), .val (.int p3), .val (.int p4), .val (.int p5), .val (.int p6), .val (.int (5 : Int32)), .val (.ref b1), .val (.int (r.toInt32))] [(.int (3 : Int32)), (.int (r.toInt32)), (.int (5 : Int32)), (.ref b1)])) rfl (by rw [hml]; rfl) (argsL := [(.ref b1), (.int (5 : Int32)), (.int (r.toInt32)), (.int (3 : Int32))]) (rest := []) (lenOf pd___DIII_Z rfl) rfl (by show 2 * 0 + _ ≤ _; exact Nat.le_of_eq rfl) (hb hby at_169) (fun _ _ => ⟨rfl, e10, (by decide : 1 + 0 ≤ _), (by decide : 5 + 0 ≤ _)⟩)
          dsimp only [Pt.U, Pt.locs, Pt.cells, Pt.slots] at X11 l11 y11 z11 st11 hQ11
          subst l11 y11 z11
          obtain ⟨rfl, N11q, e11⟩ := hQ11
          have N11 := Fr.app N10 N11q
          refine go (B := T11.setTop (mkF m 172 #[.val (.int p1), .val (.int p2), .val (.int p3), .val (.int p4), .val (.int p5), .val (.int p6), .val (.int (5 : Int32)), .val (.ref b1), .val (.int (r.toInt32))] [(.int (okF [(((p2 &&& (15 : Int32)) - (8 : Int32)).toInt), (((p3 &&& (15 : Int32)) - (8 : Int32)).toInt), (((p4 &&& (15 : Int32)) - (8 : Int32)).toInt), (((p5 &&& (15 : Int32)) - (8 : Int32)).toInt), (((p6 &&& (15 : Int32)) - (8 : Int32)).toInt)] r 3))])) (fun _ k => st11 _ k) ?_
          have hc172 : ¬ ((okF [(((p2 &&& (15 : Int32)) - (8 : Int32)).toInt), (((p3 &&& (15 : Int32)) - (8 : Int32)).toInt), (((p4 &&& (15 : Int32)) - (8 : Int32)).toInt), (((p5 &&& (15 : Int32)) - (8 : Int32)).toInt), (((p6 &&& (15 : Int32)) - (8 : Int32)).toInt)] r 3) = (0 : Int32)) := okF_one hr1 hr2 _
          refine go (B := T11.setTop (mkF m 175 #[.val (.int p1), .val (.int p2), .val (.int p3), .val (.int p4), .val (.int p5), .val (.int p6), .val (.int (5 : Int32)), .val (.ref b1), .val (.int (r.toInt32))] [])) (fun _ k => XS.ifNo X11.here hx rfl (hb hby at_172) rfl ((if0 _ _).trans (feq hc172).1) k) ?_
          refine go (B := T11.setTop (mkF m 177 #[.val (.int p1), .val (.int p2), .val (.int p3), .val (.int p4), .val (.int p5), .val (.int p6), .val (.int (5 : Int32)), .val (.ref b1), .val (.int (r.toInt32))] [(.ref b1)])) (fun _ k => XS.aload X11.here hx rfl (hb hby at_175) rfl rfl k) ?_
          refine go (B := T11.setTop (mkF m 179 #[.val (.int p1), .val (.int p2), .val (.int p3), .val (.int p4), .val (.int p5), .val (.int p6), .val (.int (5 : Int32)), .val (.ref b1), .val (.int (r.toInt32))] [(.int (5 : Int32)), (.ref b1)])) (fun _ k => XS.iload X11.here hx rfl (hb hby at_177) rfl k) ?_
          refine go (B := T11.setTop (mkF m 181 #[.val (.int p1), .val (.int p2), .val (.int p3), .val (.int p4), .val (.int p5), .val (.int p6), .val (.int (5 : Int32)), .val (.ref b1), .val (.int (r.toInt32))] [(.int (r.toInt32)), (.int (5 : Int32)), (.ref b1)])) (fun _ k => XS.iload X11.here hx rfl (hb hby at_179) rfl k) ?_
          refine go (B := T11.setTop (mkF m 182 #[.val (.int p1), .val (.int p2), .val (.int p3), .val (.int p4), .val (.int p5), .val (.int p6), .val (.int (5 : Int32)), .val (.ref b1), .val (.int (r.toInt32))] [(.int (4 : Int32)), (.int (r.toInt32)), (.int (5 : Int32)), (.ref b1)])) (fun _ k => XS.iconst X11.here hx rfl (hb hby at_181) k) ?_
          obtain ⟨_, _, ⟨T12, L12, k12, n12⟩, -, X12, ⟨Lc12, hQ12, l12, y12, z12⟩, st12⟩ := Jvm.LawKit.callS X11 hx (y := (⟨"com/example/cladestream/cladestream/ParticlesBestPinLaw", "ok", "([DIII)Z"⟩ : MethodName)) hown (mvT hZ (hw _ (List.mem_of_getElem? (i := 6) rfl))) (mvT hZ (hw _ (List.mem_of_getElem? (i := 7) rfl))) (mvT hZ (hw _ (List.mem_of_getElem? (i := 8) rfl))) (mvT hZ (hw _ (List.mem_of_getElem? (i := 9) rfl))) (by decide) (backOf (W := 0) (rm2 l Z a0 hw [] b1 (5 : Int32) (r.toInt32) (4 : Int32) [(((p2 &&& (15 : Int32)) - (8 : Int32)).toInt), (((p3 &&& (15 : Int32)) - (8 : Int32)).toInt), (((p4 &&& (15 : Int32)) - (8 : Int32)).toInt), (((p5 &&& (15 : Int32)) - (8 : Int32)).toInt), (((p6 &&& (15 : Int32)) - (8 : Int32)).toInt)] r 4 h6 n0 Z6 DA (by show 5 < 2 ^ 31; decide) hr0 (by decide) rfl rfl rfl) hZ (hw _ (List.mem_of_getElem? (i := 9) rfl)) (hw _ (List.mem_of_getElem? (i := 8) rfl)) (by decide) (by decide)) (g := (mkF m 182 #[.val (.int p1), .val (.int p2), .val (.int p3), .val (.int p4), .val (.int p5), .val (.int p6), .val (.int (5 : Int32)), .val (.ref b1), .val (.int (r.toInt32))] [(.int (4 : Int32)), (.int (r.toInt32)), (.int (5 : Int32)), (.ref b1)])) rfl (by rw [hml]; rfl) (argsL := [(.ref b1), (.int (5 : Int32)), (.int (r.toInt32)), (.int (4 : Int32))]) (rest := []) (lenOf pd___DIII_Z rfl) rfl (by show 2 * 0 + _ ≤ _; exact Nat.le_of_eq rfl) (hb hby at_182) (fun _ _ => ⟨rfl, e11, (by decide : 1 + 0 ≤ _), (by decide : 5 + 0 ≤ _)⟩)
          dsimp only [Pt.U, Pt.locs, Pt.cells, Pt.slots] at X12 l12 y12 z12 st12 hQ12
          subst l12 y12 z12
          obtain ⟨rfl, N12q, e12⟩ := hQ12
          have N12 := Fr.app N11 N12q
          refine go (B := T12.setTop (mkF m 185 #[.val (.int p1), .val (.int p2), .val (.int p3), .val (.int p4), .val (.int p5), .val (.int p6), .val (.int (5 : Int32)), .val (.ref b1), .val (.int (r.toInt32))] [(.int (okF [(((p2 &&& (15 : Int32)) - (8 : Int32)).toInt), (((p3 &&& (15 : Int32)) - (8 : Int32)).toInt), (((p4 &&& (15 : Int32)) - (8 : Int32)).toInt), (((p5 &&& (15 : Int32)) - (8 : Int32)).toInt), (((p6 &&& (15 : Int32)) - (8 : Int32)).toInt)] r 4))])) (fun _ k => st12 _ k) ?_
          have hc185 : ¬ ((okF [(((p2 &&& (15 : Int32)) - (8 : Int32)).toInt), (((p3 &&& (15 : Int32)) - (8 : Int32)).toInt), (((p4 &&& (15 : Int32)) - (8 : Int32)).toInt), (((p5 &&& (15 : Int32)) - (8 : Int32)).toInt), (((p6 &&& (15 : Int32)) - (8 : Int32)).toInt)] r 4) = (0 : Int32)) := okF_one hr1 hr2 _
          refine go (B := T12.setTop (mkF m 188 #[.val (.int p1), .val (.int p2), .val (.int p3), .val (.int p4), .val (.int p5), .val (.int p6), .val (.int (5 : Int32)), .val (.ref b1), .val (.int (r.toInt32))] [])) (fun _ k => XS.ifNo X12.here hx rfl (hb hby at_185) rfl ((if0 _ _).trans (feq hc185).1) k) ?_
          refine go (B := T12.setTop (mkF m 189 #[.val (.int p1), .val (.int p2), .val (.int p3), .val (.int p4), .val (.int p5), .val (.int p6), .val (.int (5 : Int32)), .val (.ref b1), .val (.int (r.toInt32))] [(.int (1 : Int32))])) (fun _ k => XS.iconst X12.here hx rfl (hb hby at_188) k) ?_
          refine go (B := T12.setTop (mkF m 193 #[.val (.int p1), .val (.int p2), .val (.int p3), .val (.int p4), .val (.int p5), .val (.int p6), .val (.int (5 : Int32)), .val (.ref b1), .val (.int (r.toInt32))] [(.int (1 : Int32))])) (fun _ k => XS.goto X12.here hx rfl (pc0 := 189) (pc' := 193) rfl (hb hby at_189) (by decide) (by decide) k) ?_
          refine goRetN X12 hx (t := .boolean) Bd.returns (by simp) hlk (hb hby at_193) ?_ (by decide) (by decide)
          rw [e12]
          exact ⟨rfl, N12⟩
        · refine go (B := T5.setTop (mkF m 102 #[.val (.int p1), .val (.int p2), .val (.int p3), .val (.int p4), .val (.int p5), .val (.int p6), .val (.int n), .val (.ref b1), .unset] [])) (fun _ k => XS.icmpYes X5.here hx rfl (pc0 := 86) (pc' := 102) rfl (hb hby at_86) rfl (flt hc86).2.2.2 (by decide) (by decide) k) ?_
          have hn : n = (4 : Int32) := by
            simp only [Int32.lt_iff_toInt_lt, Int64.lt_iff_toInt_lt, ← Int32.toInt_inj, ← Int64.toInt_inj, Int32.reduceToInt, Int64.reduceToInt] at hc31 hc49 hc67 hc86
            rw [← Int32.toInt_inj]
            have c : (4 : Int32).toInt = 4 := by decide
            omega
          subst hn
          have DA : DArr Z h5 b1 [(((p2 &&& (15 : Int32)) - (8 : Int32)).toInt), (((p3 &&& (15 : Int32)) - (8 : Int32)).toInt), (((p4 &&& (15 : Int32)) - (8 : Int32)).toInt), (((p5 &&& (15 : Int32)) - (8 : Int32)).toInt)] := DArr.of V5 rfl ⟨⟨_, rfl, (FP.Core.i2d_int ((p2 &&& (15 : Int32)) - (8 : Int32)))⟩, ⟨_, rfl, (FP.Core.i2d_int ((p3 &&& (15 : Int32)) - (8 : Int32)))⟩, ⟨_, rfl, (FP.Core.i2d_int ((p4 &&& (15 : Int32)) - (8 : Int32)))⟩, ⟨_, rfl, (FP.Core.i2d_int ((p5 &&& (15 : Int32)) - (8 : Int32)))⟩, trivial⟩
          refine go (B := T5.setTop (mkF m 104 #[.val (.int p1), .val (.int p2), .val (.int p3), .val (.int p4), .val (.int p5), .val (.int p6), .val (.int (4 : Int32)), .val (.ref b1), .unset] [(.ref b1)])) (fun _ k => XS.aload X5.here hx rfl (hb hby at_102) rfl rfl k) ?_
          obtain ⟨_, _, ⟨T13, L13, k13, n13⟩, -, X13, ⟨Lc13, hQ13, l13, y13, z13⟩, st13⟩ := Jvm.LawKit.callS X5 hx (y := (⟨"com/example/cladestream/cladestream/Particles", "best", "([D)I"⟩ : MethodName)) hown (mvT hZ (hw _ (List.mem_of_getElem? (i := 2) rfl))) (mvT hZ (hw _ (List.mem_of_getElem? (i := 3) rfl))) (mvT hZ (hw _ (List.mem_of_getElem? (i := 4) rfl))) (mvT hZ (hw _ (List.mem_of_getElem? (i := 5) rfl))) (by decide) (backOf (W := 0) (rm1 l Z a0 hw [] b1 [(((p2 &&& (15 : Int32)) - (8 : Int32)).toInt), (((p3 &&& (15 : Int32)) - (8 : Int32)).toInt), (((p4 &&& (15 : Int32)) - (8 : Int32)).toInt), (((p5 &&& (15 : Int32)) - (8 : Int32)).toInt)] h5 n0 Z5 DA (by show 4 < 2 ^ 31; decide) (by show 0 < 4; decide)) hZ (hw _ (List.mem_of_getElem? (i := 5) rfl)) (hw _ (List.mem_of_getElem? (i := 4) rfl)) (by decide) (by decide)) (g := (mkF m 104 #[.val (.int p1), .val (.int p2), .val (.int p3), .val (.int p4), .val (.int p5), .val (.int p6), .val (.int (4 : Int32)), .val (.ref b1), .unset] [(.ref b1)])) rfl (by rw [hml]; rfl) (argsL := [(.ref b1)]) (rest := []) (lenOf pd___D_I rfl) rfl (by show 2 * 0 + _ ≤ _; exact Nat.le_of_eq rfl) (hb hby at_104) (fun _ _ => ⟨rfl, e5, (by decide : 1 + 0 ≤ _), (by decide : 5 + 0 ≤ _)⟩)
          dsimp only [Pt.U, Pt.locs, Pt.cells, Pt.slots] at X13 l13 y13 z13 st13 hQ13
          subst l13 y13 z13
          obtain ⟨r, rfl, N13q, eB, hr0, hr1, hr2⟩ := hQ13
          have N13 := Fr.app N5 N13q
          refine go (B := T13.setTop (mkF m 107 #[.val (.int p1), .val (.int p2), .val (.int p3), .val (.int p4), .val (.int p5), .val (.int p6), .val (.int (4 : Int32)), .val (.ref b1), .unset] [(.int (r.toInt32))])) (fun _ k => st13 _ k) ?_
          refine go (B := T13.setTop (mkF m 109 #[.val (.int p1), .val (.int p2), .val (.int p3), .val (.int p4), .val (.int p5), .val (.int p6), .val (.int (4 : Int32)), .val (.ref b1), .val (.int (r.toInt32))] [])) (fun _ k => XS.istore X13.here hx rfl (hb hby at_107) rfl (l' := #[.val (.int p1), .val (.int p2), .val (.int p3), .val (.int p4), .val (.int p5), .val (.int p6), .val (.int (4 : Int32)), .val (.ref b1), .val (.int (r.toInt32))]) rfl k) ?_
          refine go (B := T13.setTop (mkF m 111 #[.val (.int p1), .val (.int p2), .val (.int p3), .val (.int p4), .val (.int p5), .val (.int p6), .val (.int (4 : Int32)), .val (.ref b1), .val (.int (r.toInt32))] [(.int (r.toInt32))])) (fun _ k => XS.iload X13.here hx rfl (hb hby at_109) rfl k) ?_
          have hc111 : ¬ ((r.toInt32) < (0 : Int32)) := (fun q => by have z : r < 4 := hr0; rw [Int32.lt_iff_toInt_lt, len_toInt (by omega)] at q; have c0 : (0 : Int32).toInt = 0 := (by decide); omega)
          refine go (B := T13.setTop (mkF m 114 #[.val (.int p1), .val (.int p2), .val (.int p3), .val (.int p4), .val (.int p5), .val (.int p6), .val (.int (4 : Int32)), .val (.ref b1), .val (.int (r.toInt32))] [])) (fun _ k => XS.ifNo X13.here hx rfl (hb hby at_111) rfl ((if0 _ _).trans (flt hc111).1) k) ?_
          refine go (B := T13.setTop (mkF m 116 #[.val (.int p1), .val (.int p2), .val (.int p3), .val (.int p4), .val (.int p5), .val (.int p6), .val (.int (4 : Int32)), .val (.ref b1), .val (.int (r.toInt32))] [(.int (r.toInt32))])) (fun _ k => XS.iload X13.here hx rfl (hb hby at_114) rfl k) ?_
          refine go (B := T13.setTop (mkF m 118 #[.val (.int p1), .val (.int p2), .val (.int p3), .val (.int p4), .val (.int p5), .val (.int p6), .val (.int (4 : Int32)), .val (.ref b1), .val (.int (r.toInt32))] [(.int (4 : Int32)), (.int (r.toInt32))])) (fun _ k => XS.iload X13.here hx rfl (hb hby at_116) rfl k) ?_
          have hc118 : (r.toInt32) < (4 : Int32) := (ltN (i := r) (j := 4) (Nat.lt_trans (show r < 4 from hr0) (by decide)) (by decide)).mpr hr0
          refine go (B := T13.setTop (mkF m 123 #[.val (.int p1), .val (.int p2), .val (.int p3), .val (.int p4), .val (.int p5), .val (.int p6), .val (.int (4 : Int32)), .val (.ref b1), .val (.int (r.toInt32))] [])) (fun _ k => XS.icmpYes X13.here hx rfl (pc0 := 118) (pc' := 123) rfl (hb hby at_118) rfl (tlt hc118).1 (by decide) (by decide) k) ?_
          refine go (B := T13.setTop (mkF m 125 #[.val (.int p1), .val (.int p2), .val (.int p3), .val (.int p4), .val (.int p5), .val (.int p6), .val (.int (4 : Int32)), .val (.ref b1), .val (.int (r.toInt32))] [(.ref b1)])) (fun _ k => XS.aload X13.here hx rfl (hb hby at_123) rfl rfl k) ?_
          refine go (B := T13.setTop (mkF m 127 #[.val (.int p1), .val (.int p2), .val (.int p3), .val (.int p4), .val (.int p5), .val (.int p6), .val (.int (4 : Int32)), .val (.ref b1), .val (.int (r.toInt32))] [(.int (4 : Int32)), (.ref b1)])) (fun _ k => XS.iload X13.here hx rfl (hb hby at_125) rfl k) ?_
          refine go (B := T13.setTop (mkF m 129 #[.val (.int p1), .val (.int p2), .val (.int p3), .val (.int p4), .val (.int p5), .val (.int p6), .val (.int (4 : Int32)), .val (.ref b1), .val (.int (r.toInt32))] [(.int (r.toInt32)), (.int (4 : Int32)), (.ref b1)])) (fun _ k => XS.iload X13.here hx rfl (hb hby at_127) rfl k) ?_
          refine go (B := T13.setTop (mkF m 130 #[.val (.int p1), .val (.int p2), .val (.int p3), .val (.int p4), .val (.int p5), .val (.int p6), .val (.int (4 : Int32)), .val (.ref b1), .val (.int (r.toInt32))] [(.int (0 : Int32)), (.int (r.toInt32)), (.int (4 : Int32)), (.ref b1)])) (fun _ k => XS.iconst X13.here hx rfl (hb hby at_129) k) ?_
          obtain ⟨_, _, ⟨T14, L14, k14, n14⟩, -, X14, ⟨Lc14, hQ14, l14, y14, z14⟩, st14⟩ := Jvm.LawKit.callS X13 hx (y := (⟨"com/example/cladestream/cladestream/ParticlesBestPinLaw", "ok", "([DIII)Z"⟩ : MethodName)) hown (mvT hZ (hw _ (List.mem_of_getElem? (i := 6) rfl))) (mvT hZ (hw _ (List.mem_of_getElem? (i := 7) rfl))) (mvT hZ (hw _ (List.mem_of_getElem? (i := 8) rfl))) (mvT hZ (hw _ (List.mem_of_getElem? (i := 9) rfl))) (by decide) (backOf (W := 0) (rm2 l Z a0 hw [] b1 (4 : Int32) (r.toInt32) (0 : Int32) [(((p2 &&& (15 : Int32)) - (8 : Int32)).toInt), (((p3 &&& (15 : Int32)) - (8 : Int32)).toInt), (((p4 &&& (15 : Int32)) - (8 : Int32)).toInt), (((p5 &&& (15 : Int32)) - (8 : Int32)).toInt)] r 0 h5 n0 Z5 DA (by show 4 < 2 ^ 31; decide) hr0 (by decide) rfl rfl rfl) hZ (hw _ (List.mem_of_getElem? (i := 9) rfl)) (hw _ (List.mem_of_getElem? (i := 8) rfl)) (by decide) (by decide)) (g := (mkF m 130 #[.val (.int p1), .val (.int p2), .val (.int p3), .val (.int p4), .val (.int p5), .val (.int p6), .val (.int (4 : Int32)), .val (.ref b1), .val (.int (r.toInt32))] [(.int (0 : Int32)), (.int (r.toInt32)), (.int (4 : Int32)), (.ref b1)])) rfl (by rw [hml]; rfl) (argsL := [(.ref b1), (.int (4 : Int32)), (.int (r.toInt32)), (.int (0 : Int32))]) (rest := []) (lenOf pd___DIII_Z rfl) rfl (by show 2 * 0 + _ ≤ _; exact Nat.le_of_eq rfl) (hb hby at_130) (fun _ _ => ⟨rfl, eB, (by decide : 1 + 0 ≤ _), (by decide : 5 + 0 ≤ _)⟩)
          dsimp only [Pt.U, Pt.locs, Pt.cells, Pt.slots] at X14 l14 y14 z14 st14 hQ14
          subst l14 y14 z14
          obtain ⟨rfl, N14q, e14⟩ := hQ14
          have N14 := Fr.app N13 N14q
          refine go (B := T14.setTop (mkF m 133 #[.val (.int p1), .val (.int p2), .val (.int p3), .val (.int p4), .val (.int p5), .val (.int p6), .val (.int (4 : Int32)), .val (.ref b1), .val (.int (r.toInt32))] [(.int (okF [(((p2 &&& (15 : Int32)) - (8 : Int32)).toInt), (((p3 &&& (15 : Int32)) - (8 : Int32)).toInt), (((p4 &&& (15 : Int32)) - (8 : Int32)).toInt), (((p5 &&& (15 : Int32)) - (8 : Int32)).toInt)] r 0))])) (fun _ k => st14 _ k) ?_
          have hc133 : ¬ ((okF [(((p2 &&& (15 : Int32)) - (8 : Int32)).toInt), (((p3 &&& (15 : Int32)) - (8 : Int32)).toInt), (((p4 &&& (15 : Int32)) - (8 : Int32)).toInt), (((p5 &&& (15 : Int32)) - (8 : Int32)).toInt)] r 0) = (0 : Int32)) := okF_one hr1 hr2 _
          refine go (B := T14.setTop (mkF m 136 #[.val (.int p1), .val (.int p2), .val (.int p3), .val (.int p4), .val (.int p5), .val (.int p6), .val (.int (4 : Int32)), .val (.ref b1), .val (.int (r.toInt32))] [])) (fun _ k => XS.ifNo X14.here hx rfl (hb hby at_133) rfl ((if0 _ _).trans (feq hc133).1) k) ?_
          refine go (B := T14.setTop (mkF m 138 #[.val (.int p1), .val (.int p2), .val (.int p3), .val (.int p4), .val (.int p5), .val (.int p6), .val (.int (4 : Int32)), .val (.ref b1), .val (.int (r.toInt32))] [(.ref b1)])) (fun _ k => XS.aload X14.here hx rfl (hb hby at_136) rfl rfl k) ?_
          refine go (B := T14.setTop (mkF m 140 #[.val (.int p1), .val (.int p2), .val (.int p3), .val (.int p4), .val (.int p5), .val (.int p6), .val (.int (4 : Int32)), .val (.ref b1), .val (.int (r.toInt32))] [(.int (4 : Int32)), (.ref b1)])) (fun _ k => XS.iload X14.here hx rfl (hb hby at_138) rfl k) ?_
          refine go (B := T14.setTop (mkF m 142 #[.val (.int p1), .val (.int p2), .val (.int p3), .val (.int p4), .val (.int p5), .val (.int p6), .val (.int (4 : Int32)), .val (.ref b1), .val (.int (r.toInt32))] [(.int (r.toInt32)), (.int (4 : Int32)), (.ref b1)])) (fun _ k => XS.iload X14.here hx rfl (hb hby at_140) rfl k) ?_
          refine go (B := T14.setTop (mkF m 143 #[.val (.int p1), .val (.int p2), .val (.int p3), .val (.int p4), .val (.int p5), .val (.int p6), .val (.int (4 : Int32)), .val (.ref b1), .val (.int (r.toInt32))] [(.int (1 : Int32)), (.int (r.toInt32)), (.int (4 : Int32)), (.ref b1)])) (fun _ k => XS.iconst X14.here hx rfl (hb hby at_142) k) ?_
          obtain ⟨_, _, ⟨T15, L15, k15, n15⟩, -, X15, ⟨Lc15, hQ15, l15, y15, z15⟩, st15⟩ := Jvm.LawKit.callS X14 hx (y := (⟨"com/example/cladestream/cladestream/ParticlesBestPinLaw", "ok", "([DIII)Z"⟩ : MethodName)) hown (mvT hZ (hw _ (List.mem_of_getElem? (i := 6) rfl))) (mvT hZ (hw _ (List.mem_of_getElem? (i := 7) rfl))) (mvT hZ (hw _ (List.mem_of_getElem? (i := 8) rfl))) (mvT hZ (hw _ (List.mem_of_getElem? (i := 9) rfl))) (by decide) (backOf (W := 0) (rm2 l Z a0 hw [] b1 (4 : Int32) (r.toInt32) (1 : Int32) [(((p2 &&& (15 : Int32)) - (8 : Int32)).toInt), (((p3 &&& (15 : Int32)) - (8 : Int32)).toInt), (((p4 &&& (15 : Int32)) - (8 : Int32)).toInt), (((p5 &&& (15 : Int32)) - (8 : Int32)).toInt)] r 1 h5 n0 Z5 DA (by show 4 < 2 ^ 31; decide) hr0 (by decide) rfl rfl rfl) hZ (hw _ (List.mem_of_getElem? (i := 9) rfl)) (hw _ (List.mem_of_getElem? (i := 8) rfl)) (by decide) (by decide)) (g := (mkF m 143 #[.val (.int p1), .val (.int p2), .val (.int p3), .val (.int p4), .val (.int p5), .val (.int p6), .val (.int (4 : Int32)), .val (.ref b1), .val (.int (r.toInt32))] [(.int (1 : Int32)), (.int (r.toInt32)), (.int (4 : Int32)), (.ref b1)])) rfl (by rw [hml]; rfl) (argsL := [(.ref b1), (.int (4 : Int32)), (.int (r.toInt32)), (.int (1 : Int32))]) (rest := []) (lenOf pd___DIII_Z rfl) rfl (by show 2 * 0 + _ ≤ _; exact Nat.le_of_eq rfl) (hb hby at_143) (fun _ _ => ⟨rfl, e14, (by decide : 1 + 0 ≤ _), (by decide : 5 + 0 ≤ _)⟩)
          dsimp only [Pt.U, Pt.locs, Pt.cells, Pt.slots] at X15 l15 y15 z15 st15 hQ15
          subst l15 y15 z15
          obtain ⟨rfl, N15q, e15⟩ := hQ15
          have N15 := Fr.app N14 N15q
          refine go (B := T15.setTop (mkF m 146 #[.val (.int p1), .val (.int p2), .val (.int p3), .val (.int p4), .val (.int p5), .val (.int p6), .val (.int (4 : Int32)), .val (.ref b1), .val (.int (r.toInt32))] [(.int (okF [(((p2 &&& (15 : Int32)) - (8 : Int32)).toInt), (((p3 &&& (15 : Int32)) - (8 : Int32)).toInt), (((p4 &&& (15 : Int32)) - (8 : Int32)).toInt), (((p5 &&& (15 : Int32)) - (8 : Int32)).toInt)] r 1))])) (fun _ k => st15 _ k) ?_
          have hc146 : ¬ ((okF [(((p2 &&& (15 : Int32)) - (8 : Int32)).toInt), (((p3 &&& (15 : Int32)) - (8 : Int32)).toInt), (((p4 &&& (15 : Int32)) - (8 : Int32)).toInt), (((p5 &&& (15 : Int32)) - (8 : Int32)).toInt)] r 1) = (0 : Int32)) := okF_one hr1 hr2 _
          refine go (B := T15.setTop (mkF m 149 #[.val (.int p1), .val (.int p2), .val (.int p3), .val (.int p4), .val (.int p5), .val (.int p6), .val (.int (4 : Int32)), .val (.ref b1), .val (.int (r.toInt32))] [])) (fun _ k => XS.ifNo X15.here hx rfl (hb hby at_146) rfl ((if0 _ _).trans (feq hc146).1) k) ?_
          refine go (B := T15.setTop (mkF m 151 #[.val (.int p1), .val (.int p2), .val (.int p3), .val (.int p4), .val (.int p5), .val (.int p6), .val (.int (4 : Int32)), .val (.ref b1), .val (.int (r.toInt32))] [(.ref b1)])) (fun _ k => XS.aload X15.here hx rfl (hb hby at_149) rfl rfl k) ?_
          refine go (B := T15.setTop (mkF m 153 #[.val (.int p1), .val (.int p2), .val (.int p3), .val (.int p4), .val (.int p5), .val (.int p6), .val (.int (4 : Int32)), .val (.ref b1), .val (.int (r.toInt32))] [(.int (4 : Int32)), (.ref b1)])) (fun _ k => XS.iload X15.here hx rfl (hb hby at_151) rfl k) ?_
          refine go (B := T15.setTop (mkF m 155 #[.val (.int p1), .val (.int p2), .val (.int p3), .val (.int p4), .val (.int p5), .val (.int p6), .val (.int (4 : Int32)), .val (.ref b1), .val (.int (r.toInt32))] [(.int (r.toInt32)), (.int (4 : Int32)), (.ref b1)])) (fun _ k => XS.iload X15.here hx rfl (hb hby at_153) rfl k) ?_
          refine go (B := T15.setTop (mkF m 156 #[.val (.int p1), .val (.int p2), .val (.int p3), .val (.int p4), .val (.int p5), .val (.int p6), .val (.int (4 : Int32)), .val (.ref b1), .val (.int (r.toInt32))] [(.int (2 : Int32)), (.int (r.toInt32)), (.int (4 : Int32)), (.ref b1)])) (fun _ k => XS.iconst X15.here hx rfl (hb hby at_155) k) ?_
          obtain ⟨_, _, ⟨T16, L16, k16, n16⟩, -, X16, ⟨Lc16, hQ16, l16, y16, z16⟩, st16⟩ := Jvm.LawKit.callS X15 hx (y := (⟨"com/example/cladestream/cladestream/ParticlesBestPinLaw", "ok", "([DIII)Z"⟩ : MethodName)) hown (mvT hZ (hw _ (List.mem_of_getElem? (i := 6) rfl))) (mvT hZ (hw _ (List.mem_of_getElem? (i := 7) rfl))) (mvT hZ (hw _ (List.mem_of_getElem? (i := 8) rfl))) (mvT hZ (hw _ (List.mem_of_getElem? (i := 9) rfl))) (by decide) (backOf (W := 0) (rm2 l Z a0 hw [] b1 (4 : Int32) (r.toInt32) (2 : Int32) [(((p2 &&& (15 : Int32)) - (8 : Int32)).toInt), (((p3 &&& (15 : Int32)) - (8 : Int32)).toInt), (((p4 &&& (15 : Int32)) - (8 : Int32)).toInt), (((p5 &&& (15 : Int32)) - (8 : Int32)).toInt)] r 2 h5 n0 Z5 DA (by show 4 < 2 ^ 31; decide) hr0 (by decide) rfl rfl rfl) hZ (hw _ (List.mem_of_getElem? (i := 9) rfl)) (hw _ (List.mem_of_getElem? (i := 8) rfl)) (by decide) (by decide)) (g := (mkF m 156 #[.val (.int p1), .val (.int p2), .val (.int p3), .val (.int p4), .val (.int p5), .val (.int p6), .val (.int (4 : Int32)), .val (.ref b1), .val (.int (r.toInt32))] [(.int (2 : Int32)), (.int (r.toInt32)), (.int (4 : Int32)), (.ref b1)])) rfl (by rw [hml]; rfl) (argsL := [(.ref b1), (.int (4 : Int32)), (.int (r.toInt32)), (.int (2 : Int32))]) (rest := []) (lenOf pd___DIII_Z rfl) rfl (by show 2 * 0 + _ ≤ _; exact Nat.le_of_eq rfl) (hb hby at_156) (fun _ _ => ⟨rfl, e15, (by decide : 1 + 0 ≤ _), (by decide : 5 + 0 ≤ _)⟩)
          dsimp only [Pt.U, Pt.locs, Pt.cells, Pt.slots] at X16 l16 y16 z16 st16 hQ16
          subst l16 y16 z16
          obtain ⟨rfl, N16q, e16⟩ := hQ16
          have N16 := Fr.app N15 N16q
          refine go (B := T16.setTop (mkF m 159 #[.val (.int p1), .val (.int p2), .val (.int p3), .val (.int p4), .val (.int p5), .val (.int p6), .val (.int (4 : Int32)), .val (.ref b1), .val (.int (r.toInt32))] [(.int (okF [(((p2 &&& (15 : Int32)) - (8 : Int32)).toInt), (((p3 &&& (15 : Int32)) - (8 : Int32)).toInt), (((p4 &&& (15 : Int32)) - (8 : Int32)).toInt), (((p5 &&& (15 : Int32)) - (8 : Int32)).toInt)] r 2))])) (fun _ k => st16 _ k) ?_
          have hc159 : ¬ ((okF [(((p2 &&& (15 : Int32)) - (8 : Int32)).toInt), (((p3 &&& (15 : Int32)) - (8 : Int32)).toInt), (((p4 &&& (15 : Int32)) - (8 : Int32)).toInt), (((p5 &&& (15 : Int32)) - (8 : Int32)).toInt)] r 2) = (0 : Int32)) := okF_one hr1 hr2 _
          refine go (B := T16.setTop (mkF m 162 #[.val (.int p1), .val (.int p2), .val (.int p3), .val (.int p4), .val (.int p5), .val (.int p6), .val (.int (4 : Int32)), .val (.ref b1), .val (.int (r.toInt32))] [])) (fun _ k => XS.ifNo X16.here hx rfl (hb hby at_159) rfl ((if0 _ _).trans (feq hc159).1) k) ?_
          refine go (B := T16.setTop (mkF m 164 #[.val (.int p1), .val (.int p2), .val (.int p3), .val (.int p4), .val (.int p5), .val (.int p6), .val (.int (4 : Int32)), .val (.ref b1), .val (.int (r.toInt32))] [(.ref b1)])) (fun _ k => XS.aload X16.here hx rfl (hb hby at_162) rfl rfl k) ?_
          refine go (B := T16.setTop (mkF m 166 #[.val (.int p1), .val (.int p2), .val (.int p3), .val (.int p4), .val (.int p5), .val (.int p6), .val (.int (4 : Int32)), .val (.ref b1), .val (.int (r.toInt32))] [(.int (4 : Int32)), (.ref b1)])) (fun _ k => XS.iload X16.here hx rfl (hb hby at_164) rfl k) ?_
          refine go (B := T16.setTop (mkF m 168 #[.val (.int p1), .val (.int p2), .val (.int p3), .val (.int p4), .val (.int p5), .val (.int p6), .val (.int (4 : Int32)), .val (.ref b1), .val (.int (r.toInt32))] [(.int (r.toInt32)), (.int (4 : Int32)), (.ref b1)])) (fun _ k => XS.iload X16.here hx rfl (hb hby at_166) rfl k) ?_
          refine go (B := T16.setTop (mkF m 169 #[.val (.int p1), .val (.int p2), .val (.int p3), .val (.int p4), .val (.int p5), .val (.int p6), .val (.int (4 : Int32)), .val (.ref b1), .val (.int (r.toInt32))] [(.int (3 : Int32)), (.int (r.toInt32)), (.int (4 : Int32)), (.ref b1)])) (fun _ k => XS.iconst X16.here hx rfl (hb hby at_168) k) ?_
          obtain ⟨_, _, ⟨T17, L17, k17, n17⟩, -, X17, ⟨Lc17, hQ17, l17, y17, z17⟩, st17⟩ := Jvm.LawKit.callS X16 hx (y := (⟨"com/example/cladestream/cladestream/ParticlesBestPinLaw", "ok", "([DIII)Z"⟩ : MethodName)) hown (mvT hZ (hw _ (List.mem_of_getElem? (i := 6) rfl))) (mvT hZ (hw _ (List.mem_of_getElem? (i := 7) rfl))) (mvT hZ (hw _ (List.mem_of_getElem? (i := 8) rfl))) (mvT hZ (hw _ (List.mem_of_getElem? (i := 9) rfl))) (by decide) (backOf (W := 0) (rm2 l Z a0 hw [] b1 (4 : Int32) (r.toInt32) (3 : Int32) [(((p2 &&& (15 : Int32)) - (8 : Int32)).toInt), (((p3 &&& (15 : Int32)) - (8 : Int32)).toInt), (((p4 &&& (15 : Int32)) - (8 : Int32)).toInt), (((p5 &&& (15 : Int32)) - (8 : Int32)).toInt)] r 3 h5 n0 Z5 DA (by show 4 < 2 ^ 31; decide) hr0 (by decide) rfl rfl rfl) hZ (hw _ (List.mem_of_getElem? (i := 9) rfl)) (hw _ (List.mem_of_getElem? (i := 8) rfl)) (by decide) (by decide)) (g := (mkF m 169 #[.val (.int p1), .val (.int p2), .val (.int p3), .val (.int p4), .val (.int p5), .val (.int p6), .val (.int (4 : Int32)), .val (.ref b1), .val (.int (r.toInt32))] [(.int (3 : Int32)), (.int (r.toInt32)), (.int (4 : Int32)), (.ref b1)])) rfl (by rw [hml]; rfl) (argsL := [(.ref b1), (.int (4 : Int32)), (.int (r.toInt32)), (.int (3 : Int32))]) (rest := []) (lenOf pd___DIII_Z rfl) rfl (by show 2 * 0 + _ ≤ _; exact Nat.le_of_eq rfl) (hb hby at_169) (fun _ _ => ⟨rfl, e16, (by decide : 1 + 0 ≤ _), (by decide : 5 + 0 ≤ _)⟩)
          dsimp only [Pt.U, Pt.locs, Pt.cells, Pt.slots] at X17 l17 y17 z17 st17 hQ17
          subst l17 y17 z17
          obtain ⟨rfl, N17q, e17⟩ := hQ17
          have N17 := Fr.app N16 N17q
          refine go (B := T17.setTop (mkF m 172 #[.val (.int p1), .val (.int p2), .val (.int p3), .val (.int p4), .val (.int p5), .val (.int p6), .val (.int (4 : Int32)), .val (.ref b1), .val (.int (r.toInt32))] [(.int (okF [(((p2 &&& (15 : Int32)) - (8 : Int32)).toInt), (((p3 &&& (15 : Int32)) - (8 : Int32)).toInt), (((p4 &&& (15 : Int32)) - (8 : Int32)).toInt), (((p5 &&& (15 : Int32)) - (8 : Int32)).toInt)] r 3))])) (fun _ k => st17 _ k) ?_
          have hc172 : ¬ ((okF [(((p2 &&& (15 : Int32)) - (8 : Int32)).toInt), (((p3 &&& (15 : Int32)) - (8 : Int32)).toInt), (((p4 &&& (15 : Int32)) - (8 : Int32)).toInt), (((p5 &&& (15 : Int32)) - (8 : Int32)).toInt)] r 3) = (0 : Int32)) := okF_one hr1 hr2 _
          refine go (B := T17.setTop (mkF m 175 #[.val (.int p1), .val (.int p2), .val (.int p3), .val (.int p4), .val (.int p5), .val (.int p6), .val (.int (4 : Int32)), .val (.ref b1), .val (.int (r.toInt32))] [])) (fun _ k => XS.ifNo X17.here hx rfl (hb hby at_172) rfl ((if0 _ _).trans (feq hc172).1) k) ?_
          refine go (B := T17.setTop (mkF m 177 #[.val (.int p1), .val (.int p2), .val (.int p3), .val (.int p4), .val (.int p5), .val (.int p6), .val (.int (4 : Int32)), .val (.ref b1), .val (.int (r.toInt32))] [(.ref b1)])) (fun _ k => XS.aload X17.here hx rfl (hb hby at_175) rfl rfl k) ?_
          refine go (B := T17.setTop (mkF m 179 #[.val (.int p1), .val (.int p2), .val (.int p3), .val (.int p4), .val (.int p5), .val (.int p6), .val (.int (4 : Int32)), .val (.ref b1), .val (.int (r.toInt32))] [(.int (4 : Int32)), (.ref b1)])) (fun _ k => XS.iload X17.here hx rfl (hb hby at_177) rfl k) ?_
          refine go (B := T17.setTop (mkF m 181 #[.val (.int p1), .val (.int p2), .val (.int p3), .val (.int p4), .val (.int p5), .val (.int p6), .val (.int (4 : Int32)), .val (.ref b1), .val (.int (r.toInt32))] [(.int (r.toInt32)), (.int (4 : Int32)), (.ref b1)])) (fun _ k => XS.iload X17.here hx rfl (hb hby at_179) rfl k) ?_
          refine go (B := T17.setTop (mkF m 182 #[.val (.int p1), .val (.int p2), .val (.int p3), .val (.int p4), .val (.int p5), .val (.int p6), .val (.int (4 : Int32)), .val (.ref b1), .val (.int (r.toInt32))] [(.int (4 : Int32)), (.int (r.toInt32)), (.int (4 : Int32)), (.ref b1)])) (fun _ k => XS.iconst X17.here hx rfl (hb hby at_181) k) ?_
          obtain ⟨_, _, ⟨T18, L18, k18, n18⟩, -, X18, ⟨Lc18, hQ18, l18, y18, z18⟩, st18⟩ := Jvm.LawKit.callS X17 hx (y := (⟨"com/example/cladestream/cladestream/ParticlesBestPinLaw", "ok", "([DIII)Z"⟩ : MethodName)) hown (mvT hZ (hw _ (List.mem_of_getElem? (i := 6) rfl))) (mvT hZ (hw _ (List.mem_of_getElem? (i := 7) rfl))) (mvT hZ (hw _ (List.mem_of_getElem? (i := 8) rfl))) (mvT hZ (hw _ (List.mem_of_getElem? (i := 9) rfl))) (by decide) (backOf (W := 0) (rm2 l Z a0 hw [] b1 (4 : Int32) (r.toInt32) (4 : Int32) [(((p2 &&& (15 : Int32)) - (8 : Int32)).toInt), (((p3 &&& (15 : Int32)) - (8 : Int32)).toInt), (((p4 &&& (15 : Int32)) - (8 : Int32)).toInt), (((p5 &&& (15 : Int32)) - (8 : Int32)).toInt)] r 4 h5 n0 Z5 DA (by show 4 < 2 ^ 31; decide) hr0 (by decide) rfl rfl rfl) hZ (hw _ (List.mem_of_getElem? (i := 9) rfl)) (hw _ (List.mem_of_getElem? (i := 8) rfl)) (by decide) (by decide)) (g := (mkF m 182 #[.val (.int p1), .val (.int p2), .val (.int p3), .val (.int p4), .val (.int p5), .val (.int p6), .val (.int (4 : Int32)), .val (.ref b1), .val (.int (r.toInt32))] [(.int (4 : Int32)), (.int (r.toInt32)), (.int (4 : Int32)), (.ref b1)])) rfl (by rw [hml]; rfl) (argsL := [(.ref b1), (.int (4 : Int32)), (.int (r.toInt32)), (.int (4 : Int32))]) (rest := []) (lenOf pd___DIII_Z rfl) rfl (by show 2 * 0 + _ ≤ _; exact Nat.le_of_eq rfl) (hb hby at_182) (fun _ _ => ⟨rfl, e17, (by decide : 1 + 0 ≤ _), (by decide : 5 + 0 ≤ _)⟩)
          dsimp only [Pt.U, Pt.locs, Pt.cells, Pt.slots] at X18 l18 y18 z18 st18 hQ18
          subst l18 y18 z18
          obtain ⟨rfl, N18q, e18⟩ := hQ18
          have N18 := Fr.app N17 N18q
          refine go (B := T18.setTop (mkF m 185 #[.val (.int p1), .val (.int p2), .val (.int p3), .val (.int p4), .val (.int p5), .val (.int p6), .val (.int (4 : Int32)), .val (.ref b1), .val (.int (r.toInt32))] [(.int (okF [(((p2 &&& (15 : Int32)) - (8 : Int32)).toInt), (((p3 &&& (15 : Int32)) - (8 : Int32)).toInt), (((p4 &&& (15 : Int32)) - (8 : Int32)).toInt), (((p5 &&& (15 : Int32)) - (8 : Int32)).toInt)] r 4))])) (fun _ k => st18 _ k) ?_
          have hc185 : ¬ ((okF [(((p2 &&& (15 : Int32)) - (8 : Int32)).toInt), (((p3 &&& (15 : Int32)) - (8 : Int32)).toInt), (((p4 &&& (15 : Int32)) - (8 : Int32)).toInt), (((p5 &&& (15 : Int32)) - (8 : Int32)).toInt)] r 4) = (0 : Int32)) := okF_one hr1 hr2 _
          refine go (B := T18.setTop (mkF m 188 #[.val (.int p1), .val (.int p2), .val (.int p3), .val (.int p4), .val (.int p5), .val (.int p6), .val (.int (4 : Int32)), .val (.ref b1), .val (.int (r.toInt32))] [])) (fun _ k => XS.ifNo X18.here hx rfl (hb hby at_185) rfl ((if0 _ _).trans (feq hc185).1) k) ?_
          refine go (B := T18.setTop (mkF m 189 #[.val (.int p1), .val (.int p2), .val (.int p3), .val (.int p4), .val (.int p5), .val (.int p6), .val (.int (4 : Int32)), .val (.ref b1), .val (.int (r.toInt32))] [(.int (1 : Int32))])) (fun _ k => XS.iconst X18.here hx rfl (hb hby at_188) k) ?_
          refine go (B := T18.setTop (mkF m 193 #[.val (.int p1), .val (.int p2), .val (.int p3), .val (.int p4), .val (.int p5), .val (.int p6), .val (.int (4 : Int32)), .val (.ref b1), .val (.int (r.toInt32))] [(.int (1 : Int32))])) (fun _ k => XS.goto X18.here hx rfl (pc0 := 189) (pc' := 193) rfl (hb hby at_189) (by decide) (by decide) k) ?_
          refine goRetN X18 hx (t := .boolean) Bd.returns (by simp) hlk (hb hby at_193) ?_ (by decide) (by decide)
          rw [e18]
          exact ⟨rfl, N18⟩
      · refine go (B := T4.setTop (mkF m 83 #[.val (.int p1), .val (.int p2), .val (.int p3), .val (.int p4), .val (.int p5), .val (.int p6), .val (.int n), .val (.ref b1), .unset] [])) (fun _ k => XS.icmpYes X4.here hx rfl (pc0 := 67) (pc' := 83) rfl (hb hby at_67) rfl (flt hc67).2.2.2 (by decide) (by decide) k) ?_
        refine go (B := T4.setTop (mkF m 85 #[.val (.int p1), .val (.int p2), .val (.int p3), .val (.int p4), .val (.int p5), .val (.int p6), .val (.int n), .val (.ref b1), .unset] [(.int n)])) (fun _ k => XS.iload X4.here hx rfl (hb hby at_83) rfl k) ?_
        refine go (B := T4.setTop (mkF m 86 #[.val (.int p1), .val (.int p2), .val (.int p3), .val (.int p4), .val (.int p5), .val (.int p6), .val (.int n), .val (.ref b1), .unset] [(.int (4 : Int32)), (.int n)])) (fun _ k => XS.iconst X4.here hx rfl (hb hby at_85) k) ?_
        by_cases hc86 : (4 : Int32) < n
        · exfalso
          simp only [Int32.lt_iff_toInt_lt, Int64.lt_iff_toInt_lt, ← Int32.toInt_inj, ← Int64.toInt_inj, Int32.reduceToInt, Int64.reduceToInt] at hc31 hc49 hc67 hc86
          omega
        · refine go (B := T4.setTop (mkF m 102 #[.val (.int p1), .val (.int p2), .val (.int p3), .val (.int p4), .val (.int p5), .val (.int p6), .val (.int n), .val (.ref b1), .unset] [])) (fun _ k => XS.icmpYes X4.here hx rfl (pc0 := 86) (pc' := 102) rfl (hb hby at_86) rfl (flt hc86).2.2.2 (by decide) (by decide) k) ?_
          have hn : n = (3 : Int32) := by
            simp only [Int32.lt_iff_toInt_lt, Int64.lt_iff_toInt_lt, ← Int32.toInt_inj, ← Int64.toInt_inj, Int32.reduceToInt, Int64.reduceToInt] at hc31 hc49 hc67 hc86
            rw [← Int32.toInt_inj]
            have c : (3 : Int32).toInt = 3 := by decide
            omega
          subst hn
          have DA : DArr Z h4 b1 [(((p2 &&& (15 : Int32)) - (8 : Int32)).toInt), (((p3 &&& (15 : Int32)) - (8 : Int32)).toInt), (((p4 &&& (15 : Int32)) - (8 : Int32)).toInt)] := DArr.of V4 rfl ⟨⟨_, rfl, (FP.Core.i2d_int ((p2 &&& (15 : Int32)) - (8 : Int32)))⟩, ⟨_, rfl, (FP.Core.i2d_int ((p3 &&& (15 : Int32)) - (8 : Int32)))⟩, ⟨_, rfl, (FP.Core.i2d_int ((p4 &&& (15 : Int32)) - (8 : Int32)))⟩, trivial⟩
          refine go (B := T4.setTop (mkF m 104 #[.val (.int p1), .val (.int p2), .val (.int p3), .val (.int p4), .val (.int p5), .val (.int p6), .val (.int (3 : Int32)), .val (.ref b1), .unset] [(.ref b1)])) (fun _ k => XS.aload X4.here hx rfl (hb hby at_102) rfl rfl k) ?_
          obtain ⟨_, _, ⟨T19, L19, k19, n19⟩, -, X19, ⟨Lc19, hQ19, l19, y19, z19⟩, st19⟩ := Jvm.LawKit.callS X4 hx (y := (⟨"com/example/cladestream/cladestream/Particles", "best", "([D)I"⟩ : MethodName)) hown (mvT hZ (hw _ (List.mem_of_getElem? (i := 2) rfl))) (mvT hZ (hw _ (List.mem_of_getElem? (i := 3) rfl))) (mvT hZ (hw _ (List.mem_of_getElem? (i := 4) rfl))) (mvT hZ (hw _ (List.mem_of_getElem? (i := 5) rfl))) (by decide) (backOf (W := 0) (rm1 l Z a0 hw [] b1 [(((p2 &&& (15 : Int32)) - (8 : Int32)).toInt), (((p3 &&& (15 : Int32)) - (8 : Int32)).toInt), (((p4 &&& (15 : Int32)) - (8 : Int32)).toInt)] h4 n0 Z4 DA (by show 3 < 2 ^ 31; decide) (by show 0 < 3; decide)) hZ (hw _ (List.mem_of_getElem? (i := 5) rfl)) (hw _ (List.mem_of_getElem? (i := 4) rfl)) (by decide) (by decide)) (g := (mkF m 104 #[.val (.int p1), .val (.int p2), .val (.int p3), .val (.int p4), .val (.int p5), .val (.int p6), .val (.int (3 : Int32)), .val (.ref b1), .unset] [(.ref b1)])) rfl (by rw [hml]; rfl) (argsL := [(.ref b1)]) (rest := []) (lenOf pd___D_I rfl) rfl (by show 2 * 0 + _ ≤ _; exact Nat.le_of_eq rfl) (hb hby at_104) (fun _ _ => ⟨rfl, e4, (by decide : 1 + 0 ≤ _), (by decide : 5 + 0 ≤ _)⟩)
          dsimp only [Pt.U, Pt.locs, Pt.cells, Pt.slots] at X19 l19 y19 z19 st19 hQ19
          subst l19 y19 z19
          obtain ⟨r, rfl, N19q, eB, hr0, hr1, hr2⟩ := hQ19
          have N19 := Fr.app N4 N19q
          refine go (B := T19.setTop (mkF m 107 #[.val (.int p1), .val (.int p2), .val (.int p3), .val (.int p4), .val (.int p5), .val (.int p6), .val (.int (3 : Int32)), .val (.ref b1), .unset] [(.int (r.toInt32))])) (fun _ k => st19 _ k) ?_
          refine go (B := T19.setTop (mkF m 109 #[.val (.int p1), .val (.int p2), .val (.int p3), .val (.int p4), .val (.int p5), .val (.int p6), .val (.int (3 : Int32)), .val (.ref b1), .val (.int (r.toInt32))] [])) (fun _ k => XS.istore X19.here hx rfl (hb hby at_107) rfl (l' := #[.val (.int p1), .val (.int p2), .val (.int p3), .val (.int p4), .val (.int p5), .val (.int p6), .val (.int (3 : Int32)), .val (.ref b1), .val (.int (r.toInt32))]) rfl k) ?_
          refine go (B := T19.setTop (mkF m 111 #[.val (.int p1), .val (.int p2), .val (.int p3), .val (.int p4), .val (.int p5), .val (.int p6), .val (.int (3 : Int32)), .val (.ref b1), .val (.int (r.toInt32))] [(.int (r.toInt32))])) (fun _ k => XS.iload X19.here hx rfl (hb hby at_109) rfl k) ?_
          have hc111 : ¬ ((r.toInt32) < (0 : Int32)) := (fun q => by have z : r < 3 := hr0; rw [Int32.lt_iff_toInt_lt, len_toInt (by omega)] at q; have c0 : (0 : Int32).toInt = 0 := (by decide); omega)
          refine go (B := T19.setTop (mkF m 114 #[.val (.int p1), .val (.int p2), .val (.int p3), .val (.int p4), .val (.int p5), .val (.int p6), .val (.int (3 : Int32)), .val (.ref b1), .val (.int (r.toInt32))] [])) (fun _ k => XS.ifNo X19.here hx rfl (hb hby at_111) rfl ((if0 _ _).trans (flt hc111).1) k) ?_
          refine go (B := T19.setTop (mkF m 116 #[.val (.int p1), .val (.int p2), .val (.int p3), .val (.int p4), .val (.int p5), .val (.int p6), .val (.int (3 : Int32)), .val (.ref b1), .val (.int (r.toInt32))] [(.int (r.toInt32))])) (fun _ k => XS.iload X19.here hx rfl (hb hby at_114) rfl k) ?_
          refine go (B := T19.setTop (mkF m 118 #[.val (.int p1), .val (.int p2), .val (.int p3), .val (.int p4), .val (.int p5), .val (.int p6), .val (.int (3 : Int32)), .val (.ref b1), .val (.int (r.toInt32))] [(.int (3 : Int32)), (.int (r.toInt32))])) (fun _ k => XS.iload X19.here hx rfl (hb hby at_116) rfl k) ?_
          have hc118 : (r.toInt32) < (3 : Int32) := (ltN (i := r) (j := 3) (Nat.lt_trans (show r < 3 from hr0) (by decide)) (by decide)).mpr hr0
          refine go (B := T19.setTop (mkF m 123 #[.val (.int p1), .val (.int p2), .val (.int p3), .val (.int p4), .val (.int p5), .val (.int p6), .val (.int (3 : Int32)), .val (.ref b1), .val (.int (r.toInt32))] [])) (fun _ k => XS.icmpYes X19.here hx rfl (pc0 := 118) (pc' := 123) rfl (hb hby at_118) rfl (tlt hc118).1 (by decide) (by decide) k) ?_
          refine go (B := T19.setTop (mkF m 125 #[.val (.int p1), .val (.int p2), .val (.int p3), .val (.int p4), .val (.int p5), .val (.int p6), .val (.int (3 : Int32)), .val (.ref b1), .val (.int (r.toInt32))] [(.ref b1)])) (fun _ k => XS.aload X19.here hx rfl (hb hby at_123) rfl rfl k) ?_
          refine go (B := T19.setTop (mkF m 127 #[.val (.int p1), .val (.int p2), .val (.int p3), .val (.int p4), .val (.int p5), .val (.int p6), .val (.int (3 : Int32)), .val (.ref b1), .val (.int (r.toInt32))] [(.int (3 : Int32)), (.ref b1)])) (fun _ k => XS.iload X19.here hx rfl (hb hby at_125) rfl k) ?_
          refine go (B := T19.setTop (mkF m 129 #[.val (.int p1), .val (.int p2), .val (.int p3), .val (.int p4), .val (.int p5), .val (.int p6), .val (.int (3 : Int32)), .val (.ref b1), .val (.int (r.toInt32))] [(.int (r.toInt32)), (.int (3 : Int32)), (.ref b1)])) (fun _ k => XS.iload X19.here hx rfl (hb hby at_127) rfl k) ?_
          refine go (B := T19.setTop (mkF m 130 #[.val (.int p1), .val (.int p2), .val (.int p3), .val (.int p4), .val (.int p5), .val (.int p6), .val (.int (3 : Int32)), .val (.ref b1), .val (.int (r.toInt32))] [(.int (0 : Int32)), (.int (r.toInt32)), (.int (3 : Int32)), (.ref b1)])) (fun _ k => XS.iconst X19.here hx rfl (hb hby at_129) k) ?_
          obtain ⟨_, _, ⟨T20, L20, k20, n20⟩, -, X20, ⟨Lc20, hQ20, l20, y20, z20⟩, st20⟩ := Jvm.LawKit.callS X19 hx (y := (⟨"com/example/cladestream/cladestream/ParticlesBestPinLaw", "ok", "([DIII)Z"⟩ : MethodName)) hown (mvT hZ (hw _ (List.mem_of_getElem? (i := 6) rfl))) (mvT hZ (hw _ (List.mem_of_getElem? (i := 7) rfl))) (mvT hZ (hw _ (List.mem_of_getElem? (i := 8) rfl))) (mvT hZ (hw _ (List.mem_of_getElem? (i := 9) rfl))) (by decide) (backOf (W := 0) (rm2 l Z a0 hw [] b1 (3 : Int32) (r.toInt32) (0 : Int32) [(((p2 &&& (15 : Int32)) - (8 : Int32)).toInt), (((p3 &&& (15 : Int32)) - (8 : Int32)).toInt), (((p4 &&& (15 : Int32)) - (8 : Int32)).toInt)] r 0 h4 n0 Z4 DA (by show 3 < 2 ^ 31; decide) hr0 (by decide) rfl rfl rfl) hZ (hw _ (List.mem_of_getElem? (i := 9) rfl)) (hw _ (List.mem_of_getElem? (i := 8) rfl)) (by decide) (by decide)) (g := (mkF m 130 #[.val (.int p1), .val (.int p2), .val (.int p3), .val (.int p4), .val (.int p5), .val (.int p6), .val (.int (3 : Int32)), .val (.ref b1), .val (.int (r.toInt32))] [(.int (0 : Int32)), (.int (r.toInt32)), (.int (3 : Int32)), (.ref b1)])) rfl (by rw [hml]; rfl) (argsL := [(.ref b1), (.int (3 : Int32)), (.int (r.toInt32)), (.int (0 : Int32))]) (rest := []) (lenOf pd___DIII_Z rfl) rfl (by show 2 * 0 + _ ≤ _; exact Nat.le_of_eq rfl) (hb hby at_130) (fun _ _ => ⟨rfl, eB, (by decide : 1 + 0 ≤ _), (by decide : 5 + 0 ≤ _)⟩)
          dsimp only [Pt.U, Pt.locs, Pt.cells, Pt.slots] at X20 l20 y20 z20 st20 hQ20
          subst l20 y20 z20
          obtain ⟨rfl, N20q, e20⟩ := hQ20
          have N20 := Fr.app N19 N20q
          refine go (B := T20.setTop (mkF m 133 #[.val (.int p1), .val (.int p2), .val (.int p3), .val (.int p4), .val (.int p5), .val (.int p6), .val (.int (3 : Int32)), .val (.ref b1), .val (.int (r.toInt32))] [(.int (okF [(((p2 &&& (15 : Int32)) - (8 : Int32)).toInt), (((p3 &&& (15 : Int32)) - (8 : Int32)).toInt), (((p4 &&& (15 : Int32)) - (8 : Int32)).toInt)] r 0))])) (fun _ k => st20 _ k) ?_
          have hc133 : ¬ ((okF [(((p2 &&& (15 : Int32)) - (8 : Int32)).toInt), (((p3 &&& (15 : Int32)) - (8 : Int32)).toInt), (((p4 &&& (15 : Int32)) - (8 : Int32)).toInt)] r 0) = (0 : Int32)) := okF_one hr1 hr2 _
          refine go (B := T20.setTop (mkF m 136 #[.val (.int p1), .val (.int p2), .val (.int p3), .val (.int p4), .val (.int p5), .val (.int p6), .val (.int (3 : Int32)), .val (.ref b1), .val (.int (r.toInt32))] [])) (fun _ k => XS.ifNo X20.here hx rfl (hb hby at_133) rfl ((if0 _ _).trans (feq hc133).1) k) ?_
          refine go (B := T20.setTop (mkF m 138 #[.val (.int p1), .val (.int p2), .val (.int p3), .val (.int p4), .val (.int p5), .val (.int p6), .val (.int (3 : Int32)), .val (.ref b1), .val (.int (r.toInt32))] [(.ref b1)])) (fun _ k => XS.aload X20.here hx rfl (hb hby at_136) rfl rfl k) ?_
          refine go (B := T20.setTop (mkF m 140 #[.val (.int p1), .val (.int p2), .val (.int p3), .val (.int p4), .val (.int p5), .val (.int p6), .val (.int (3 : Int32)), .val (.ref b1), .val (.int (r.toInt32))] [(.int (3 : Int32)), (.ref b1)])) (fun _ k => XS.iload X20.here hx rfl (hb hby at_138) rfl k) ?_
          refine go (B := T20.setTop (mkF m 142 #[.val (.int p1), .val (.int p2), .val (.int p3), .val (.int p4), .val (.int p5), .val (.int p6), .val (.int (3 : Int32)), .val (.ref b1), .val (.int (r.toInt32))] [(.int (r.toInt32)), (.int (3 : Int32)), (.ref b1)])) (fun _ k => XS.iload X20.here hx rfl (hb hby at_140) rfl k) ?_
          refine go (B := T20.setTop (mkF m 143 #[.val (.int p1), .val (.int p2), .val (.int p3), .val (.int p4), .val (.int p5), .val (.int p6), .val (.int (3 : Int32)), .val (.ref b1), .val (.int (r.toInt32))] [(.int (1 : Int32)), (.int (r.toInt32)), (.int (3 : Int32)), (.ref b1)])) (fun _ k => XS.iconst X20.here hx rfl (hb hby at_142) k) ?_
          obtain ⟨_, _, ⟨T21, L21, k21, n21⟩, -, X21, ⟨Lc21, hQ21, l21, y21, z21⟩, st21⟩ := Jvm.LawKit.callS X20 hx (y := (⟨"com/example/cladestream/cladestream/ParticlesBestPinLaw", "ok", "([DIII)Z"⟩ : MethodName)) hown (mvT hZ (hw _ (List.mem_of_getElem? (i := 6) rfl))) (mvT hZ (hw _ (List.mem_of_getElem? (i := 7) rfl))) (mvT hZ (hw _ (List.mem_of_getElem? (i := 8) rfl))) (mvT hZ (hw _ (List.mem_of_getElem? (i := 9) rfl))) (by decide) (backOf (W := 0) (rm2 l Z a0 hw [] b1 (3 : Int32) (r.toInt32) (1 : Int32) [(((p2 &&& (15 : Int32)) - (8 : Int32)).toInt), (((p3 &&& (15 : Int32)) - (8 : Int32)).toInt), (((p4 &&& (15 : Int32)) - (8 : Int32)).toInt)] r 1 h4 n0 Z4 DA (by show 3 < 2 ^ 31; decide) hr0 (by decide) rfl rfl rfl) hZ (hw _ (List.mem_of_getElem? (i := 9) rfl)) (hw _ (List.mem_of_getElem? (i := 8) rfl)) (by decide) (by decide)) (g := (mkF m 143 #[.val (.int p1), .val (.int p2), .val (.int p3), .val (.int p4), .val (.int p5), .val (.int p6), .val (.int (3 : Int32)), .val (.ref b1), .val (.int (r.toInt32))] [(.int (1 : Int32)), (.int (r.toInt32)), (.int (3 : Int32)), (.ref b1)])) rfl (by rw [hml]; rfl) (argsL := [(.ref b1), (.int (3 : Int32)), (.int (r.toInt32)), (.int (1 : Int32))]) (rest := []) (lenOf pd___DIII_Z rfl) rfl (by show 2 * 0 + _ ≤ _; exact Nat.le_of_eq rfl) (hb hby at_143) (fun _ _ => ⟨rfl, e20, (by decide : 1 + 0 ≤ _), (by decide : 5 + 0 ≤ _)⟩)
          dsimp only [Pt.U, Pt.locs, Pt.cells, Pt.slots] at X21 l21 y21 z21 st21 hQ21
          subst l21 y21 z21
          obtain ⟨rfl, N21q, e21⟩ := hQ21
          have N21 := Fr.app N20 N21q
          refine go (B := T21.setTop (mkF m 146 #[.val (.int p1), .val (.int p2), .val (.int p3), .val (.int p4), .val (.int p5), .val (.int p6), .val (.int (3 : Int32)), .val (.ref b1), .val (.int (r.toInt32))] [(.int (okF [(((p2 &&& (15 : Int32)) - (8 : Int32)).toInt), (((p3 &&& (15 : Int32)) - (8 : Int32)).toInt), (((p4 &&& (15 : Int32)) - (8 : Int32)).toInt)] r 1))])) (fun _ k => st21 _ k) ?_
          have hc146 : ¬ ((okF [(((p2 &&& (15 : Int32)) - (8 : Int32)).toInt), (((p3 &&& (15 : Int32)) - (8 : Int32)).toInt), (((p4 &&& (15 : Int32)) - (8 : Int32)).toInt)] r 1) = (0 : Int32)) := okF_one hr1 hr2 _
          refine go (B := T21.setTop (mkF m 149 #[.val (.int p1), .val (.int p2), .val (.int p3), .val (.int p4), .val (.int p5), .val (.int p6), .val (.int (3 : Int32)), .val (.ref b1), .val (.int (r.toInt32))] [])) (fun _ k => XS.ifNo X21.here hx rfl (hb hby at_146) rfl ((if0 _ _).trans (feq hc146).1) k) ?_
          refine go (B := T21.setTop (mkF m 151 #[.val (.int p1), .val (.int p2), .val (.int p3), .val (.int p4), .val (.int p5), .val (.int p6), .val (.int (3 : Int32)), .val (.ref b1), .val (.int (r.toInt32))] [(.ref b1)])) (fun _ k => XS.aload X21.here hx rfl (hb hby at_149) rfl rfl k) ?_
          refine go (B := T21.setTop (mkF m 153 #[.val (.int p1), .val (.int p2), .val (.int p3), .val (.int p4), .val (.int p5), .val (.int p6), .val (.int (3 : Int32)), .val (.ref b1), .val (.int (r.toInt32))] [(.int (3 : Int32)), (.ref b1)])) (fun _ k => XS.iload X21.here hx rfl (hb hby at_151) rfl k) ?_
          refine go (B := T21.setTop (mkF m 155 #[.val (.int p1), .val (.int p2), .val (.int p3), .val (.int p4), .val (.int p5), .val (.int p6), .val (.int (3 : Int32)), .val (.ref b1), .val (.int (r.toInt32))] [(.int (r.toInt32)), (.int (3 : Int32)), (.ref b1)])) (fun _ k => XS.iload X21.here hx rfl (hb hby at_153) rfl k) ?_
          refine go (B := T21.setTop (mkF m 156 #[.val (.int p1), .val (.int p2), .val (.int p3), .val (.int p4), .val (.int p5), .val (.int p6), .val (.int (3 : Int32)), .val (.ref b1), .val (.int (r.toInt32))] [(.int (2 : Int32)), (.int (r.toInt32)), (.int (3 : Int32)), (.ref b1)])) (fun _ k => XS.iconst X21.here hx rfl (hb hby at_155) k) ?_
          obtain ⟨_, _, ⟨T22, L22, k22, n22⟩, -, X22, ⟨Lc22, hQ22, l22, y22, z22⟩, st22⟩ := Jvm.LawKit.callS X21 hx (y := (⟨"com/example/cladestream/cladestream/ParticlesBestPinLaw", "ok", "([DIII)Z"⟩ : MethodName)) hown (mvT hZ (hw _ (List.mem_of_getElem? (i := 6) rfl))) (mvT hZ (hw _ (List.mem_of_getElem? (i := 7) rfl))) (mvT hZ (hw _ (List.mem_of_getElem? (i := 8) rfl))) (mvT hZ (hw _ (List.mem_of_getElem? (i := 9) rfl))) (by decide) (backOf (W := 0) (rm2 l Z a0 hw [] b1 (3 : Int32) (r.toInt32) (2 : Int32) [(((p2 &&& (15 : Int32)) - (8 : Int32)).toInt), (((p3 &&& (15 : Int32)) - (8 : Int32)).toInt), (((p4 &&& (15 : Int32)) - (8 : Int32)).toInt)] r 2 h4 n0 Z4 DA (by show 3 < 2 ^ 31; decide) hr0 (by decide) rfl rfl rfl) hZ (hw _ (List.mem_of_getElem? (i := 9) rfl)) (hw _ (List.mem_of_getElem? (i := 8) rfl)) (by decide) (by decide)) (g := (mkF m 156 #[.val (.int p1), .val (.int p2), .val (.int p3), .val (.int p4), .val (.int p5), .val (.int p6), .val (.int (3 : Int32)), .val (.ref b1), .val (.int (r.toInt32))] [(.int (2 : Int32)), (.int (r.toInt32)), (.int (3 : Int32)), (.ref b1)])) rfl (by rw [hml]; rfl) (argsL := [(.ref b1), (.int (3 : Int32)), (.int (r.toInt32)), (.int (2 : Int32))]) (rest := []) (lenOf pd___DIII_Z rfl) rfl (by show 2 * 0 + _ ≤ _; exact Nat.le_of_eq rfl) (hb hby at_156) (fun _ _ => ⟨rfl, e21, (by decide : 1 + 0 ≤ _), (by decide : 5 + 0 ≤ _)⟩)
          dsimp only [Pt.U, Pt.locs, Pt.cells, Pt.slots] at X22 l22 y22 z22 st22 hQ22
          subst l22 y22 z22
          obtain ⟨rfl, N22q, e22⟩ := hQ22
          have N22 := Fr.app N21 N22q
          refine go (B := T22.setTop (mkF m 159 #[.val (.int p1), .val (.int p2), .val (.int p3), .val (.int p4), .val (.int p5), .val (.int p6), .val (.int (3 : Int32)), .val (.ref b1), .val (.int (r.toInt32))] [(.int (okF [(((p2 &&& (15 : Int32)) - (8 : Int32)).toInt), (((p3 &&& (15 : Int32)) - (8 : Int32)).toInt), (((p4 &&& (15 : Int32)) - (8 : Int32)).toInt)] r 2))])) (fun _ k => st22 _ k) ?_
          have hc159 : ¬ ((okF [(((p2 &&& (15 : Int32)) - (8 : Int32)).toInt), (((p3 &&& (15 : Int32)) - (8 : Int32)).toInt), (((p4 &&& (15 : Int32)) - (8 : Int32)).toInt)] r 2) = (0 : Int32)) := okF_one hr1 hr2 _
          refine go (B := T22.setTop (mkF m 162 #[.val (.int p1), .val (.int p2), .val (.int p3), .val (.int p4), .val (.int p5), .val (.int p6), .val (.int (3 : Int32)), .val (.ref b1), .val (.int (r.toInt32))] [])) (fun _ k => XS.ifNo X22.here hx rfl (hb hby at_159) rfl ((if0 _ _).trans (feq hc159).1) k) ?_
          refine go (B := T22.setTop (mkF m 164 #[.val (.int p1), .val (.int p2), .val (.int p3), .val (.int p4), .val (.int p5), .val (.int p6), .val (.int (3 : Int32)), .val (.ref b1), .val (.int (r.toInt32))] [(.ref b1)])) (fun _ k => XS.aload X22.here hx rfl (hb hby at_162) rfl rfl k) ?_
          refine go (B := T22.setTop (mkF m 166 #[.val (.int p1), .val (.int p2), .val (.int p3), .val (.int p4), .val (.int p5), .val (.int p6), .val (.int (3 : Int32)), .val (.ref b1), .val (.int (r.toInt32))] [(.int (3 : Int32)), (.ref b1)])) (fun _ k => XS.iload X22.here hx rfl (hb hby at_164) rfl k) ?_
          refine go (B := T22.setTop (mkF m 168 #[.val (.int p1), .val (.int p2), .val (.int p3), .val (.int p4), .val (.int p5), .val (.int p6), .val (.int (3 : Int32)), .val (.ref b1), .val (.int (r.toInt32))] [(.int (r.toInt32)), (.int (3 : Int32)), (.ref b1)])) (fun _ k => XS.iload X22.here hx rfl (hb hby at_166) rfl k) ?_
          refine go (B := T22.setTop (mkF m 169 #[.val (.int p1), .val (.int p2), .val (.int p3), .val (.int p4), .val (.int p5), .val (.int p6), .val (.int (3 : Int32)), .val (.ref b1), .val (.int (r.toInt32))] [(.int (3 : Int32)), (.int (r.toInt32)), (.int (3 : Int32)), (.ref b1)])) (fun _ k => XS.iconst X22.here hx rfl (hb hby at_168) k) ?_
          obtain ⟨_, _, ⟨T23, L23, k23, n23⟩, -, X23, ⟨Lc23, hQ23, l23, y23, z23⟩, st23⟩ := Jvm.LawKit.callS X22 hx (y := (⟨"com/example/cladestream/cladestream/ParticlesBestPinLaw", "ok", "([DIII)Z"⟩ : MethodName)) hown (mvT hZ (hw _ (List.mem_of_getElem? (i := 6) rfl))) (mvT hZ (hw _ (List.mem_of_getElem? (i := 7) rfl))) (mvT hZ (hw _ (List.mem_of_getElem? (i := 8) rfl))) (mvT hZ (hw _ (List.mem_of_getElem? (i := 9) rfl))) (by decide) (backOf (W := 0) (rm2 l Z a0 hw [] b1 (3 : Int32) (r.toInt32) (3 : Int32) [(((p2 &&& (15 : Int32)) - (8 : Int32)).toInt), (((p3 &&& (15 : Int32)) - (8 : Int32)).toInt), (((p4 &&& (15 : Int32)) - (8 : Int32)).toInt)] r 3 h4 n0 Z4 DA (by show 3 < 2 ^ 31; decide) hr0 (by decide) rfl rfl rfl) hZ (hw _ (List.mem_of_getElem? (i := 9) rfl)) (hw _ (List.mem_of_getElem? (i := 8) rfl)) (by decide) (by decide)) (g := (mkF m 169 #[.val (.int p1), .val (.int p2), .val (.int p3), .val (.int p4), .val (.int p5), .val (.int p6), .val (.int (3 : Int32)), .val (.ref b1), .val (.int (r.toInt32))] [(.int (3 : Int32)), (.int (r.toInt32)), (.int (3 : Int32)), (.ref b1)])) rfl (by rw [hml]; rfl) (argsL := [(.ref b1), (.int (3 : Int32)), (.int (r.toInt32)), (.int (3 : Int32))]) (rest := []) (lenOf pd___DIII_Z rfl) rfl (by show 2 * 0 + _ ≤ _; exact Nat.le_of_eq rfl) (hb hby at_169) (fun _ _ => ⟨rfl, e22, (by decide : 1 + 0 ≤ _), (by decide : 5 + 0 ≤ _)⟩)
          dsimp only [Pt.U, Pt.locs, Pt.cells, Pt.slots] at X23 l23 y23 z23 st23 hQ23
          subst l23 y23 z23
          obtain ⟨rfl, N23q, e23⟩ := hQ23
          have N23 := Fr.app N22 N23q
          refine go (B := T23.setTop (mkF m 172 #[.val (.int p1), .val (.int p2), .val (.int p3), .val (.int p4), .val (.int p5), .val (.int p6), .val (.int (3 : Int32)), .val (.ref b1), .val (.int (r.toInt32))] [(.int (okF [(((p2 &&& (15 : Int32)) - (8 : Int32)).toInt), (((p3 &&& (15 : Int32)) - (8 : Int32)).toInt), (((p4 &&& (15 : Int32)) - (8 : Int32)).toInt)] r 3))])) (fun _ k => st23 _ k) ?_
          have hc172 : ¬ ((okF [(((p2 &&& (15 : Int32)) - (8 : Int32)).toInt), (((p3 &&& (15 : Int32)) - (8 : Int32)).toInt), (((p4 &&& (15 : Int32)) - (8 : Int32)).toInt)] r 3) = (0 : Int32)) := okF_one hr1 hr2 _
          refine go (B := T23.setTop (mkF m 175 #[.val (.int p1), .val (.int p2), .val (.int p3), .val (.int p4), .val (.int p5), .val (.int p6), .val (.int (3 : Int32)), .val (.ref b1), .val (.int (r.toInt32))] [])) (fun _ k => XS.ifNo X23.here hx rfl (hb hby at_172) rfl ((if0 _ _).trans (feq hc172).1) k) ?_
          refine go (B := T23.setTop (mkF m 177 #[.val (.int p1), .val (.int p2), .val (.int p3), .val (.int p4), .val (.int p5), .val (.int p6), .val (.int (3 : Int32)), .val (.ref b1), .val (.int (r.toInt32))] [(.ref b1)])) (fun _ k => XS.aload X23.here hx rfl (hb hby at_175) rfl rfl k) ?_
          refine go (B := T23.setTop (mkF m 179 #[.val (.int p1), .val (.int p2), .val (.int p3), .val (.int p4), .val (.int p5), .val (.int p6), .val (.int (3 : Int32)), .val (.ref b1), .val (.int (r.toInt32))] [(.int (3 : Int32)), (.ref b1)])) (fun _ k => XS.iload X23.here hx rfl (hb hby at_177) rfl k) ?_
          refine go (B := T23.setTop (mkF m 181 #[.val (.int p1), .val (.int p2), .val (.int p3), .val (.int p4), .val (.int p5), .val (.int p6), .val (.int (3 : Int32)), .val (.ref b1), .val (.int (r.toInt32))] [(.int (r.toInt32)), (.int (3 : Int32)), (.ref b1)])) (fun _ k => XS.iload X23.here hx rfl (hb hby at_179) rfl k) ?_
          refine go (B := T23.setTop (mkF m 182 #[.val (.int p1), .val (.int p2), .val (.int p3), .val (.int p4), .val (.int p5), .val (.int p6), .val (.int (3 : Int32)), .val (.ref b1), .val (.int (r.toInt32))] [(.int (4 : Int32)), (.int (r.toInt32)), (.int (3 : Int32)), (.ref b1)])) (fun _ k => XS.iconst X23.here hx rfl (hb hby at_181) k) ?_
          obtain ⟨_, _, ⟨T24, L24, k24, n24⟩, -, X24, ⟨Lc24, hQ24, l24, y24, z24⟩, st24⟩ := Jvm.LawKit.callS X23 hx (y := (⟨"com/example/cladestream/cladestream/ParticlesBestPinLaw", "ok", "([DIII)Z"⟩ : MethodName)) hown (mvT hZ (hw _ (List.mem_of_getElem? (i := 6) rfl))) (mvT hZ (hw _ (List.mem_of_getElem? (i := 7) rfl))) (mvT hZ (hw _ (List.mem_of_getElem? (i := 8) rfl))) (mvT hZ (hw _ (List.mem_of_getElem? (i := 9) rfl))) (by decide) (backOf (W := 0) (rm2 l Z a0 hw [] b1 (3 : Int32) (r.toInt32) (4 : Int32) [(((p2 &&& (15 : Int32)) - (8 : Int32)).toInt), (((p3 &&& (15 : Int32)) - (8 : Int32)).toInt), (((p4 &&& (15 : Int32)) - (8 : Int32)).toInt)] r 4 h4 n0 Z4 DA (by show 3 < 2 ^ 31; decide) hr0 (by decide) rfl rfl rfl) hZ (hw _ (List.mem_of_getElem? (i := 9) rfl)) (hw _ (List.mem_of_getElem? (i := 8) rfl)) (by decide) (by decide)) (g := (mkF m 182 #[.val (.int p1), .val (.int p2), .val (.int p3), .val (.int p4), .val (.int p5), .val (.int p6), .val (.int (3 : Int32)), .val (.ref b1), .val (.int (r.toInt32))] [(.int (4 : Int32)), (.int (r.toInt32)), (.int (3 : Int32)), (.ref b1)])) rfl (by rw [hml]; rfl) (argsL := [(.ref b1), (.int (3 : Int32)), (.int (r.toInt32)), (.int (4 : Int32))]) (rest := []) (lenOf pd___DIII_Z rfl) rfl (by show 2 * 0 + _ ≤ _; exact Nat.le_of_eq rfl) (hb hby at_182) (fun _ _ => ⟨rfl, e23, (by decide : 1 + 0 ≤ _), (by decide : 5 + 0 ≤ _)⟩)
          dsimp only [Pt.U, Pt.locs, Pt.cells, Pt.slots] at X24 l24 y24 z24 st24 hQ24
          subst l24 y24 z24
          obtain ⟨rfl, N24q, e24⟩ := hQ24
          have N24 := Fr.app N23 N24q
          refine go (B := T24.setTop (mkF m 185 #[.val (.int p1), .val (.int p2), .val (.int p3), .val (.int p4), .val (.int p5), .val (.int p6), .val (.int (3 : Int32)), .val (.ref b1), .val (.int (r.toInt32))] [(.int (okF [(((p2 &&& (15 : Int32)) - (8 : Int32)).toInt), (((p3 &&& (15 : Int32)) - (8 : Int32)).toInt), (((p4 &&& (15 : Int32)) - (8 : Int32)).toInt)] r 4))])) (fun _ k => st24 _ k) ?_
          have hc185 : ¬ ((okF [(((p2 &&& (15 : Int32)) - (8 : Int32)).toInt), (((p3 &&& (15 : Int32)) - (8 : Int32)).toInt), (((p4 &&& (15 : Int32)) - (8 : Int32)).toInt)] r 4) = (0 : Int32)) := okF_one hr1 hr2 _
          refine go (B := T24.setTop (mkF m 188 #[.val (.int p1), .val (.int p2), .val (.int p3), .val (.int p4), .val (.int p5), .val (.int p6), .val (.int (3 : Int32)), .val (.ref b1), .val (.int (r.toInt32))] [])) (fun _ k => XS.ifNo X24.here hx rfl (hb hby at_185) rfl ((if0 _ _).trans (feq hc185).1) k) ?_
          refine go (B := T24.setTop (mkF m 189 #[.val (.int p1), .val (.int p2), .val (.int p3), .val (.int p4), .val (.int p5), .val (.int p6), .val (.int (3 : Int32)), .val (.ref b1), .val (.int (r.toInt32))] [(.int (1 : Int32))])) (fun _ k => XS.iconst X24.here hx rfl (hb hby at_188) k) ?_
          refine go (B := T24.setTop (mkF m 193 #[.val (.int p1), .val (.int p2), .val (.int p3), .val (.int p4), .val (.int p5), .val (.int p6), .val (.int (3 : Int32)), .val (.ref b1), .val (.int (r.toInt32))] [(.int (1 : Int32))])) (fun _ k => XS.goto X24.here hx rfl (pc0 := 189) (pc' := 193) rfl (hb hby at_189) (by decide) (by decide) k) ?_
          refine goRetN X24 hx (t := .boolean) Bd.returns (by simp) hlk (hb hby at_193) ?_ (by decide) (by decide)
          rw [e24]
          exact ⟨rfl, N24⟩
    · refine go (B := T3.setTop (mkF m 64 #[.val (.int p1), .val (.int p2), .val (.int p3), .val (.int p4), .val (.int p5), .val (.int p6), .val (.int n), .val (.ref b1), .unset] [])) (fun _ k => XS.icmpYes X3.here hx rfl (pc0 := 49) (pc' := 64) rfl (hb hby at_49) rfl (flt hc49).2.2.2 (by decide) (by decide) k) ?_
      refine go (B := T3.setTop (mkF m 66 #[.val (.int p1), .val (.int p2), .val (.int p3), .val (.int p4), .val (.int p5), .val (.int p6), .val (.int n), .val (.ref b1), .unset] [(.int n)])) (fun _ k => XS.iload X3.here hx rfl (hb hby at_64) rfl k) ?_
      refine go (B := T3.setTop (mkF m 67 #[.val (.int p1), .val (.int p2), .val (.int p3), .val (.int p4), .val (.int p5), .val (.int p6), .val (.int n), .val (.ref b1), .unset] [(.int (3 : Int32)), (.int n)])) (fun _ k => XS.iconst X3.here hx rfl (hb hby at_66) k) ?_
      by_cases hc67 : (3 : Int32) < n
      · exfalso
        simp only [Int32.lt_iff_toInt_lt, Int64.lt_iff_toInt_lt, ← Int32.toInt_inj, ← Int64.toInt_inj, Int32.reduceToInt, Int64.reduceToInt] at hc31 hc49 hc67
        omega
      · refine go (B := T3.setTop (mkF m 83 #[.val (.int p1), .val (.int p2), .val (.int p3), .val (.int p4), .val (.int p5), .val (.int p6), .val (.int n), .val (.ref b1), .unset] [])) (fun _ k => XS.icmpYes X3.here hx rfl (pc0 := 67) (pc' := 83) rfl (hb hby at_67) rfl (flt hc67).2.2.2 (by decide) (by decide) k) ?_
        refine go (B := T3.setTop (mkF m 85 #[.val (.int p1), .val (.int p2), .val (.int p3), .val (.int p4), .val (.int p5), .val (.int p6), .val (.int n), .val (.ref b1), .unset] [(.int n)])) (fun _ k => XS.iload X3.here hx rfl (hb hby at_83) rfl k) ?_
        refine go (B := T3.setTop (mkF m 86 #[.val (.int p1), .val (.int p2), .val (.int p3), .val (.int p4), .val (.int p5), .val (.int p6), .val (.int n), .val (.ref b1), .unset] [(.int (4 : Int32)), (.int n)])) (fun _ k => XS.iconst X3.here hx rfl (hb hby at_85) k) ?_
        by_cases hc86 : (4 : Int32) < n
        · exfalso
          simp only [Int32.lt_iff_toInt_lt, Int64.lt_iff_toInt_lt, ← Int32.toInt_inj, ← Int64.toInt_inj, Int32.reduceToInt, Int64.reduceToInt] at hc31 hc49 hc67 hc86
          omega
        · refine go (B := T3.setTop (mkF m 102 #[.val (.int p1), .val (.int p2), .val (.int p3), .val (.int p4), .val (.int p5), .val (.int p6), .val (.int n), .val (.ref b1), .unset] [])) (fun _ k => XS.icmpYes X3.here hx rfl (pc0 := 86) (pc' := 102) rfl (hb hby at_86) rfl (flt hc86).2.2.2 (by decide) (by decide) k) ?_
          have hn : n = (2 : Int32) := by
            simp only [Int32.lt_iff_toInt_lt, Int64.lt_iff_toInt_lt, ← Int32.toInt_inj, ← Int64.toInt_inj, Int32.reduceToInt, Int64.reduceToInt] at hc31 hc49 hc67 hc86
            rw [← Int32.toInt_inj]
            have c : (2 : Int32).toInt = 2 := by decide
            omega
          subst hn
          have DA : DArr Z h3 b1 [(((p2 &&& (15 : Int32)) - (8 : Int32)).toInt), (((p3 &&& (15 : Int32)) - (8 : Int32)).toInt)] := DArr.of V3 rfl ⟨⟨_, rfl, (FP.Core.i2d_int ((p2 &&& (15 : Int32)) - (8 : Int32)))⟩, ⟨_, rfl, (FP.Core.i2d_int ((p3 &&& (15 : Int32)) - (8 : Int32)))⟩, trivial⟩
          refine go (B := T3.setTop (mkF m 104 #[.val (.int p1), .val (.int p2), .val (.int p3), .val (.int p4), .val (.int p5), .val (.int p6), .val (.int (2 : Int32)), .val (.ref b1), .unset] [(.ref b1)])) (fun _ k => XS.aload X3.here hx rfl (hb hby at_102) rfl rfl k) ?_
          obtain ⟨_, _, ⟨T25, L25, k25, n25⟩, -, X25, ⟨Lc25, hQ25, l25, y25, z25⟩, st25⟩ := Jvm.LawKit.callS X3 hx (y := (⟨"com/example/cladestream/cladestream/Particles", "best", "([D)I"⟩ : MethodName)) hown (mvT hZ (hw _ (List.mem_of_getElem? (i := 2) rfl))) (mvT hZ (hw _ (List.mem_of_getElem? (i := 3) rfl))) (mvT hZ (hw _ (List.mem_of_getElem? (i := 4) rfl))) (mvT hZ (hw _ (List.mem_of_getElem? (i := 5) rfl))) (by decide) (backOf (W := 0) (rm1 l Z a0 hw [] b1 [(((p2 &&& (15 : Int32)) - (8 : Int32)).toInt), (((p3 &&& (15 : Int32)) - (8 : Int32)).toInt)] h3 n0 Z3 DA (by show 2 < 2 ^ 31; decide) (by show 0 < 2; decide)) hZ (hw _ (List.mem_of_getElem? (i := 5) rfl)) (hw _ (List.mem_of_getElem? (i := 4) rfl)) (by decide) (by decide)) (g := (mkF m 104 #[.val (.int p1), .val (.int p2), .val (.int p3), .val (.int p4), .val (.int p5), .val (.int p6), .val (.int (2 : Int32)), .val (.ref b1), .unset] [(.ref b1)])) rfl (by rw [hml]; rfl) (argsL := [(.ref b1)]) (rest := []) (lenOf pd___D_I rfl) rfl (by show 2 * 0 + _ ≤ _; exact Nat.le_of_eq rfl) (hb hby at_104) (fun _ _ => ⟨rfl, e3, (by decide : 1 + 0 ≤ _), (by decide : 5 + 0 ≤ _)⟩)
          dsimp only [Pt.U, Pt.locs, Pt.cells, Pt.slots] at X25 l25 y25 z25 st25 hQ25
          subst l25 y25 z25
          obtain ⟨r, rfl, N25q, eB, hr0, hr1, hr2⟩ := hQ25
          have N25 := Fr.app N3 N25q
          refine go (B := T25.setTop (mkF m 107 #[.val (.int p1), .val (.int p2), .val (.int p3), .val (.int p4), .val (.int p5), .val (.int p6), .val (.int (2 : Int32)), .val (.ref b1), .unset] [(.int (r.toInt32))])) (fun _ k => st25 _ k) ?_
          refine go (B := T25.setTop (mkF m 109 #[.val (.int p1), .val (.int p2), .val (.int p3), .val (.int p4), .val (.int p5), .val (.int p6), .val (.int (2 : Int32)), .val (.ref b1), .val (.int (r.toInt32))] [])) (fun _ k => XS.istore X25.here hx rfl (hb hby at_107) rfl (l' := #[.val (.int p1), .val (.int p2), .val (.int p3), .val (.int p4), .val (.int p5), .val (.int p6), .val (.int (2 : Int32)), .val (.ref b1), .val (.int (r.toInt32))]) rfl k) ?_
          refine go (B := T25.setTop (mkF m 111 #[.val (.int p1), .val (.int p2), .val (.int p3), .val (.int p4), .val (.int p5), .val (.int p6), .val (.int (2 : Int32)), .val (.ref b1), .val (.int (r.toInt32))] [(.int (r.toInt32))])) (fun _ k => XS.iload X25.here hx rfl (hb hby at_109) rfl k) ?_
          have hc111 : ¬ ((r.toInt32) < (0 : Int32)) := (fun q => by have z : r < 2 := hr0; rw [Int32.lt_iff_toInt_lt, len_toInt (by omega)] at q; have c0 : (0 : Int32).toInt = 0 := (by decide); omega)
          refine go (B := T25.setTop (mkF m 114 #[.val (.int p1), .val (.int p2), .val (.int p3), .val (.int p4), .val (.int p5), .val (.int p6), .val (.int (2 : Int32)), .val (.ref b1), .val (.int (r.toInt32))] [])) (fun _ k => XS.ifNo X25.here hx rfl (hb hby at_111) rfl ((if0 _ _).trans (flt hc111).1) k) ?_
          refine go (B := T25.setTop (mkF m 116 #[.val (.int p1), .val (.int p2), .val (.int p3), .val (.int p4), .val (.int p5), .val (.int p6), .val (.int (2 : Int32)), .val (.ref b1), .val (.int (r.toInt32))] [(.int (r.toInt32))])) (fun _ k => XS.iload X25.here hx rfl (hb hby at_114) rfl k) ?_
          refine go (B := T25.setTop (mkF m 118 #[.val (.int p1), .val (.int p2), .val (.int p3), .val (.int p4), .val (.int p5), .val (.int p6), .val (.int (2 : Int32)), .val (.ref b1), .val (.int (r.toInt32))] [(.int (2 : Int32)), (.int (r.toInt32))])) (fun _ k => XS.iload X25.here hx rfl (hb hby at_116) rfl k) ?_
          have hc118 : (r.toInt32) < (2 : Int32) := (ltN (i := r) (j := 2) (Nat.lt_trans (show r < 2 from hr0) (by decide)) (by decide)).mpr hr0
          refine go (B := T25.setTop (mkF m 123 #[.val (.int p1), .val (.int p2), .val (.int p3), .val (.int p4), .val (.int p5), .val (.int p6), .val (.int (2 : Int32)), .val (.ref b1), .val (.int (r.toInt32))] [])) (fun _ k => XS.icmpYes X25.here hx rfl (pc0 := 118) (pc' := 123) rfl (hb hby at_118) rfl (tlt hc118).1 (by decide) (by decide) k) ?_
          refine go (B := T25.setTop (mkF m 125 #[.val (.int p1), .val (.int p2), .val (.int p3), .val (.int p4), .val (.int p5), .val (.int p6), .val (.int (2 : Int32)), .val (.ref b1), .val (.int (r.toInt32))] [(.ref b1)])) (fun _ k => XS.aload X25.here hx rfl (hb hby at_123) rfl rfl k) ?_
          refine go (B := T25.setTop (mkF m 127 #[.val (.int p1), .val (.int p2), .val (.int p3), .val (.int p4), .val (.int p5), .val (.int p6), .val (.int (2 : Int32)), .val (.ref b1), .val (.int (r.toInt32))] [(.int (2 : Int32)), (.ref b1)])) (fun _ k => XS.iload X25.here hx rfl (hb hby at_125) rfl k) ?_
          refine go (B := T25.setTop (mkF m 129 #[.val (.int p1), .val (.int p2), .val (.int p3), .val (.int p4), .val (.int p5), .val (.int p6), .val (.int (2 : Int32)), .val (.ref b1), .val (.int (r.toInt32))] [(.int (r.toInt32)), (.int (2 : Int32)), (.ref b1)])) (fun _ k => XS.iload X25.here hx rfl (hb hby at_127) rfl k) ?_
          refine go (B := T25.setTop (mkF m 130 #[.val (.int p1), .val (.int p2), .val (.int p3), .val (.int p4), .val (.int p5), .val (.int p6), .val (.int (2 : Int32)), .val (.ref b1), .val (.int (r.toInt32))] [(.int (0 : Int32)), (.int (r.toInt32)), (.int (2 : Int32)), (.ref b1)])) (fun _ k => XS.iconst X25.here hx rfl (hb hby at_129) k) ?_
          obtain ⟨_, _, ⟨T26, L26, k26, n26⟩, -, X26, ⟨Lc26, hQ26, l26, y26, z26⟩, st26⟩ := Jvm.LawKit.callS X25 hx (y := (⟨"com/example/cladestream/cladestream/ParticlesBestPinLaw", "ok", "([DIII)Z"⟩ : MethodName)) hown (mvT hZ (hw _ (List.mem_of_getElem? (i := 6) rfl))) (mvT hZ (hw _ (List.mem_of_getElem? (i := 7) rfl))) (mvT hZ (hw _ (List.mem_of_getElem? (i := 8) rfl))) (mvT hZ (hw _ (List.mem_of_getElem? (i := 9) rfl))) (by decide) (backOf (W := 0) (rm2 l Z a0 hw [] b1 (2 : Int32) (r.toInt32) (0 : Int32) [(((p2 &&& (15 : Int32)) - (8 : Int32)).toInt), (((p3 &&& (15 : Int32)) - (8 : Int32)).toInt)] r 0 h3 n0 Z3 DA (by show 2 < 2 ^ 31; decide) hr0 (by decide) rfl rfl rfl) hZ (hw _ (List.mem_of_getElem? (i := 9) rfl)) (hw _ (List.mem_of_getElem? (i := 8) rfl)) (by decide) (by decide)) (g := (mkF m 130 #[.val (.int p1), .val (.int p2), .val (.int p3), .val (.int p4), .val (.int p5), .val (.int p6), .val (.int (2 : Int32)), .val (.ref b1), .val (.int (r.toInt32))] [(.int (0 : Int32)), (.int (r.toInt32)), (.int (2 : Int32)), (.ref b1)])) rfl (by rw [hml]; rfl) (argsL := [(.ref b1), (.int (2 : Int32)), (.int (r.toInt32)), (.int (0 : Int32))]) (rest := []) (lenOf pd___DIII_Z rfl) rfl (by show 2 * 0 + _ ≤ _; exact Nat.le_of_eq rfl) (hb hby at_130) (fun _ _ => ⟨rfl, eB, (by decide : 1 + 0 ≤ _), (by decide : 5 + 0 ≤ _)⟩)
          dsimp only [Pt.U, Pt.locs, Pt.cells, Pt.slots] at X26 l26 y26 z26 st26 hQ26
          subst l26 y26 z26
          obtain ⟨rfl, N26q, e26⟩ := hQ26
          have N26 := Fr.app N25 N26q
          refine go (B := T26.setTop (mkF m 133 #[.val (.int p1), .val (.int p2), .val (.int p3), .val (.int p4), .val (.int p5), .val (.int p6), .val (.int (2 : Int32)), .val (.ref b1), .val (.int (r.toInt32))] [(.int (okF [(((p2 &&& (15 : Int32)) - (8 : Int32)).toInt), (((p3 &&& (15 : Int32)) - (8 : Int32)).toInt)] r 0))])) (fun _ k => st26 _ k) ?_
          have hc133 : ¬ ((okF [(((p2 &&& (15 : Int32)) - (8 : Int32)).toInt), (((p3 &&& (15 : Int32)) - (8 : Int32)).toInt)] r 0) = (0 : Int32)) := okF_one hr1 hr2 _
          refine go (B := T26.setTop (mkF m 136 #[.val (.int p1), .val (.int p2), .val (.int p3), .val (.int p4), .val (.int p5), .val (.int p6), .val (.int (2 : Int32)), .val (.ref b1), .val (.int (r.toInt32))] [])) (fun _ k => XS.ifNo X26.here hx rfl (hb hby at_133) rfl ((if0 _ _).trans (feq hc133).1) k) ?_
          refine go (B := T26.setTop (mkF m 138 #[.val (.int p1), .val (.int p2), .val (.int p3), .val (.int p4), .val (.int p5), .val (.int p6), .val (.int (2 : Int32)), .val (.ref b1), .val (.int (r.toInt32))] [(.ref b1)])) (fun _ k => XS.aload X26.here hx rfl (hb hby at_136) rfl rfl k) ?_
          refine go (B := T26.setTop (mkF m 140 #[.val (.int p1), .val (.int p2), .val (.int p3), .val (.int p4), .val (.int p5), .val (.int p6), .val (.int (2 : Int32)), .val (.ref b1), .val (.int (r.toInt32))] [(.int (2 : Int32)), (.ref b1)])) (fun _ k => XS.iload X26.here hx rfl (hb hby at_138) rfl k) ?_
          refine go (B := T26.setTop (mkF m 142 #[.val (.int p1), .val (.int p2), .val (.int p3), .val (.int p4), .val (.int p5), .val (.int p6), .val (.int (2 : Int32)), .val (.ref b1), .val (.int (r.toInt32))] [(.int (r.toInt32)), (.int (2 : Int32)), (.ref b1)])) (fun _ k => XS.iload X26.here hx rfl (hb hby at_140) rfl k) ?_
          refine go (B := T26.setTop (mkF m 143 #[.val (.int p1), .val (.int p2), .val (.int p3), .val (.int p4), .val (.int p5), .val (.int p6), .val (.int (2 : Int32)), .val (.ref b1), .val (.int (r.toInt32))] [(.int (1 : Int32)), (.int (r.toInt32)), (.int (2 : Int32)), (.ref b1)])) (fun _ k => XS.iconst X26.here hx rfl (hb hby at_142) k) ?_
          obtain ⟨_, _, ⟨T27, L27, k27, n27⟩, -, X27, ⟨Lc27, hQ27, l27, y27, z27⟩, st27⟩ := Jvm.LawKit.callS X26 hx (y := (⟨"com/example/cladestream/cladestream/ParticlesBestPinLaw", "ok", "([DIII)Z"⟩ : MethodName)) hown (mvT hZ (hw _ (List.mem_of_getElem? (i := 6) rfl))) (mvT hZ (hw _ (List.mem_of_getElem? (i := 7) rfl))) (mvT hZ (hw _ (List.mem_of_getElem? (i := 8) rfl))) (mvT hZ (hw _ (List.mem_of_getElem? (i := 9) rfl))) (by decide) (backOf (W := 0) (rm2 l Z a0 hw [] b1 (2 : Int32) (r.toInt32) (1 : Int32) [(((p2 &&& (15 : Int32)) - (8 : Int32)).toInt), (((p3 &&& (15 : Int32)) - (8 : Int32)).toInt)] r 1 h3 n0 Z3 DA (by show 2 < 2 ^ 31; decide) hr0 (by decide) rfl rfl rfl) hZ (hw _ (List.mem_of_getElem? (i := 9) rfl)) (hw _ (List.mem_of_getElem? (i := 8) rfl)) (by decide) (by decide)) (g := (mkF m 143 #[.val (.int p1), .val (.int p2), .val (.int p3), .val (.int p4), .val (.int p5), .val (.int p6), .val (.int (2 : Int32)), .val (.ref b1), .val (.int (r.toInt32))] [(.int (1 : Int32)), (.int (r.toInt32)), (.int (2 : Int32)), (.ref b1)])) rfl (by rw [hml]; rfl) (argsL := [(.ref b1), (.int (2 : Int32)), (.int (r.toInt32)), (.int (1 : Int32))]) (rest := []) (lenOf pd___DIII_Z rfl) rfl (by show 2 * 0 + _ ≤ _; exact Nat.le_of_eq rfl) (hb hby at_143) (fun _ _ => ⟨rfl, e26, (by decide : 1 + 0 ≤ _), (by decide : 5 + 0 ≤ _)⟩)
          dsimp only [Pt.U, Pt.locs, Pt.cells, Pt.slots] at X27 l27 y27 z27 st27 hQ27
          subst l27 y27 z27
          obtain ⟨rfl, N27q, e27⟩ := hQ27
          have N27 := Fr.app N26 N27q
          refine go (B := T27.setTop (mkF m 146 #[.val (.int p1), .val (.int p2), .val (.int p3), .val (.int p4), .val (.int p5), .val (.int p6), .val (.int (2 : Int32)), .val (.ref b1), .val (.int (r.toInt32))] [(.int (okF [(((p2 &&& (15 : Int32)) - (8 : Int32)).toInt), (((p3 &&& (15 : Int32)) - (8 : Int32)).toInt)] r 1))])) (fun _ k => st27 _ k) ?_
          have hc146 : ¬ ((okF [(((p2 &&& (15 : Int32)) - (8 : Int32)).toInt), (((p3 &&& (15 : Int32)) - (8 : Int32)).toInt)] r 1) = (0 : Int32)) := okF_one hr1 hr2 _
          refine go (B := T27.setTop (mkF m 149 #[.val (.int p1), .val (.int p2), .val (.int p3), .val (.int p4), .val (.int p5), .val (.int p6), .val (.int (2 : Int32)), .val (.ref b1), .val (.int (r.toInt32))] [])) (fun _ k => XS.ifNo X27.here hx rfl (hb hby at_146) rfl ((if0 _ _).trans (feq hc146).1) k) ?_
          refine go (B := T27.setTop (mkF m 151 #[.val (.int p1), .val (.int p2), .val (.int p3), .val (.int p4), .val (.int p5), .val (.int p6), .val (.int (2 : Int32)), .val (.ref b1), .val (.int (r.toInt32))] [(.ref b1)])) (fun _ k => XS.aload X27.here hx rfl (hb hby at_149) rfl rfl k) ?_
          refine go (B := T27.setTop (mkF m 153 #[.val (.int p1), .val (.int p2), .val (.int p3), .val (.int p4), .val (.int p5), .val (.int p6), .val (.int (2 : Int32)), .val (.ref b1), .val (.int (r.toInt32))] [(.int (2 : Int32)), (.ref b1)])) (fun _ k => XS.iload X27.here hx rfl (hb hby at_151) rfl k) ?_
          refine go (B := T27.setTop (mkF m 155 #[.val (.int p1), .val (.int p2), .val (.int p3), .val (.int p4), .val (.int p5), .val (.int p6), .val (.int (2 : Int32)), .val (.ref b1), .val (.int (r.toInt32))] [(.int (r.toInt32)), (.int (2 : Int32)), (.ref b1)])) (fun _ k => XS.iload X27.here hx rfl (hb hby at_153) rfl k) ?_
          refine go (B := T27.setTop (mkF m 156 #[.val (.int p1), .val (.int p2), .val (.int p3), .val (.int p4), .val (.int p5), .val (.int p6), .val (.int (2 : Int32)), .val (.ref b1), .val (.int (r.toInt32))] [(.int (2 : Int32)), (.int (r.toInt32)), (.int (2 : Int32)), (.ref b1)])) (fun _ k => XS.iconst X27.here hx rfl (hb hby at_155) k) ?_
          obtain ⟨_, _, ⟨T28, L28, k28, n28⟩, -, X28, ⟨Lc28, hQ28, l28, y28, z28⟩, st28⟩ := Jvm.LawKit.callS X27 hx (y := (⟨"com/example/cladestream/cladestream/ParticlesBestPinLaw", "ok", "([DIII)Z"⟩ : MethodName)) hown (mvT hZ (hw _ (List.mem_of_getElem? (i := 6) rfl))) (mvT hZ (hw _ (List.mem_of_getElem? (i := 7) rfl))) (mvT hZ (hw _ (List.mem_of_getElem? (i := 8) rfl))) (mvT hZ (hw _ (List.mem_of_getElem? (i := 9) rfl))) (by decide) (backOf (W := 0) (rm2 l Z a0 hw [] b1 (2 : Int32) (r.toInt32) (2 : Int32) [(((p2 &&& (15 : Int32)) - (8 : Int32)).toInt), (((p3 &&& (15 : Int32)) - (8 : Int32)).toInt)] r 2 h3 n0 Z3 DA (by show 2 < 2 ^ 31; decide) hr0 (by decide) rfl rfl rfl) hZ (hw _ (List.mem_of_getElem? (i := 9) rfl)) (hw _ (List.mem_of_getElem? (i := 8) rfl)) (by decide) (by decide)) (g := (mkF m 156 #[.val (.int p1), .val (.int p2), .val (.int p3), .val (.int p4), .val (.int p5), .val (.int p6), .val (.int (2 : Int32)), .val (.ref b1), .val (.int (r.toInt32))] [(.int (2 : Int32)), (.int (r.toInt32)), (.int (2 : Int32)), (.ref b1)])) rfl (by rw [hml]; rfl) (argsL := [(.ref b1), (.int (2 : Int32)), (.int (r.toInt32)), (.int (2 : Int32))]) (rest := []) (lenOf pd___DIII_Z rfl) rfl (by show 2 * 0 + _ ≤ _; exact Nat.le_of_eq rfl) (hb hby at_156) (fun _ _ => ⟨rfl, e27, (by decide : 1 + 0 ≤ _), (by decide : 5 + 0 ≤ _)⟩)
          dsimp only [Pt.U, Pt.locs, Pt.cells, Pt.slots] at X28 l28 y28 z28 st28 hQ28
          subst l28 y28 z28
          obtain ⟨rfl, N28q, e28⟩ := hQ28
          have N28 := Fr.app N27 N28q
          refine go (B := T28.setTop (mkF m 159 #[.val (.int p1), .val (.int p2), .val (.int p3), .val (.int p4), .val (.int p5), .val (.int p6), .val (.int (2 : Int32)), .val (.ref b1), .val (.int (r.toInt32))] [(.int (okF [(((p2 &&& (15 : Int32)) - (8 : Int32)).toInt), (((p3 &&& (15 : Int32)) - (8 : Int32)).toInt)] r 2))])) (fun _ k => st28 _ k) ?_
          have hc159 : ¬ ((okF [(((p2 &&& (15 : Int32)) - (8 : Int32)).toInt), (((p3 &&& (15 : Int32)) - (8 : Int32)).toInt)] r 2) = (0 : Int32)) := okF_one hr1 hr2 _
          refine go (B := T28.setTop (mkF m 162 #[.val (.int p1), .val (.int p2), .val (.int p3), .val (.int p4), .val (.int p5), .val (.int p6), .val (.int (2 : Int32)), .val (.ref b1), .val (.int (r.toInt32))] [])) (fun _ k => XS.ifNo X28.here hx rfl (hb hby at_159) rfl ((if0 _ _).trans (feq hc159).1) k) ?_
          refine go (B := T28.setTop (mkF m 164 #[.val (.int p1), .val (.int p2), .val (.int p3), .val (.int p4), .val (.int p5), .val (.int p6), .val (.int (2 : Int32)), .val (.ref b1), .val (.int (r.toInt32))] [(.ref b1)])) (fun _ k => XS.aload X28.here hx rfl (hb hby at_162) rfl rfl k) ?_
          refine go (B := T28.setTop (mkF m 166 #[.val (.int p1), .val (.int p2), .val (.int p3), .val (.int p4), .val (.int p5), .val (.int p6), .val (.int (2 : Int32)), .val (.ref b1), .val (.int (r.toInt32))] [(.int (2 : Int32)), (.ref b1)])) (fun _ k => XS.iload X28.here hx rfl (hb hby at_164) rfl k) ?_
          refine go (B := T28.setTop (mkF m 168 #[.val (.int p1), .val (.int p2), .val (.int p3), .val (.int p4), .val (.int p5), .val (.int p6), .val (.int (2 : Int32)), .val (.ref b1), .val (.int (r.toInt32))] [(.int (r.toInt32)), (.int (2 : Int32)), (.ref b1)])) (fun _ k => XS.iload X28.here hx rfl (hb hby at_166) rfl k) ?_
          refine go (B := T28.setTop (mkF m 169 #[.val (.int p1), .val (.int p2), .val (.int p3), .val (.int p4), .val (.int p5), .val (.int p6), .val (.int (2 : Int32)), .val (.ref b1), .val (.int (r.toInt32))] [(.int (3 : Int32)), (.int (r.toInt32)), (.int (2 : Int32)), (.ref b1)])) (fun _ k => XS.iconst X28.here hx rfl (hb hby at_168) k) ?_
          obtain ⟨_, _, ⟨T29, L29, k29, n29⟩, -, X29, ⟨Lc29, hQ29, l29, y29, z29⟩, st29⟩ := Jvm.LawKit.callS X28 hx (y := (⟨"com/example/cladestream/cladestream/ParticlesBestPinLaw", "ok", "([DIII)Z"⟩ : MethodName)) hown (mvT hZ (hw _ (List.mem_of_getElem? (i := 6) rfl))) (mvT hZ (hw _ (List.mem_of_getElem? (i := 7) rfl))) (mvT hZ (hw _ (List.mem_of_getElem? (i := 8) rfl))) (mvT hZ (hw _ (List.mem_of_getElem? (i := 9) rfl))) (by decide) (backOf (W := 0) (rm2 l Z a0 hw [] b1 (2 : Int32) (r.toInt32) (3 : Int32) [(((p2 &&& (15 : Int32)) - (8 : Int32)).toInt), (((p3 &&& (15 : Int32)) - (8 : Int32)).toInt)] r 3 h3 n0 Z3 DA (by show 2 < 2 ^ 31; decide) hr0 (by decide) rfl rfl rfl) hZ (hw _ (List.mem_of_getElem? (i := 9) rfl)) (hw _ (List.mem_of_getElem? (i := 8) rfl)) (by decide) (by decide)) (g := (mkF m 169 #[.val (.int p1), .val (.int p2), .val (.int p3), .val (.int p4), .val (.int p5), .val (.int p6), .val (.int (2 : Int32)), .val (.ref b1), .val (.int (r.toInt32))] [(.int (3 : Int32)), (.int (r.toInt32)), (.int (2 : Int32)), (.ref b1)])) rfl (by rw [hml]; rfl) (argsL := [(.ref b1), (.int (2 : Int32)), (.int (r.toInt32)), (.int (3 : Int32))]) (rest := []) (lenOf pd___DIII_Z rfl) rfl (by show 2 * 0 + _ ≤ _; exact Nat.le_of_eq rfl) (hb hby at_169) (fun _ _ => ⟨rfl, e28, (by decide : 1 + 0 ≤ _), (by decide : 5 + 0 ≤ _)⟩)
          dsimp only [Pt.U, Pt.locs, Pt.cells, Pt.slots] at X29 l29 y29 z29 st29 hQ29
          subst l29 y29 z29
          obtain ⟨rfl, N29q, e29⟩ := hQ29
          have N29 := Fr.app N28 N29q
          refine go (B := T29.setTop (mkF m 172 #[.val (.int p1), .val (.int p2), .val (.int p3), .val (.int p4), .val (.int p5), .val (.int p6), .val (.int (2 : Int32)), .val (.ref b1), .val (.int (r.toInt32))] [(.int (okF [(((p2 &&& (15 : Int32)) - (8 : Int32)).toInt), (((p3 &&& (15 : Int32)) - (8 : Int32)).toInt)] r 3))])) (fun _ k => st29 _ k) ?_
          have hc172 : ¬ ((okF [(((p2 &&& (15 : Int32)) - (8 : Int32)).toInt), (((p3 &&& (15 : Int32)) - (8 : Int32)).toInt)] r 3) = (0 : Int32)) := okF_one hr1 hr2 _
          refine go (B := T29.setTop (mkF m 175 #[.val (.int p1), .val (.int p2), .val (.int p3), .val (.int p4), .val (.int p5), .val (.int p6), .val (.int (2 : Int32)), .val (.ref b1), .val (.int (r.toInt32))] [])) (fun _ k => XS.ifNo X29.here hx rfl (hb hby at_172) rfl ((if0 _ _).trans (feq hc172).1) k) ?_
          refine go (B := T29.setTop (mkF m 177 #[.val (.int p1), .val (.int p2), .val (.int p3), .val (.int p4), .val (.int p5), .val (.int p6), .val (.int (2 : Int32)), .val (.ref b1), .val (.int (r.toInt32))] [(.ref b1)])) (fun _ k => XS.aload X29.here hx rfl (hb hby at_175) rfl rfl k) ?_
          refine go (B := T29.setTop (mkF m 179 #[.val (.int p1), .val (.int p2), .val (.int p3), .val (.int p4), .val (.int p5), .val (.int p6), .val (.int (2 : Int32)), .val (.ref b1), .val (.int (r.toInt32))] [(.int (2 : Int32)), (.ref b1)])) (fun _ k => XS.iload X29.here hx rfl (hb hby at_177) rfl k) ?_
          refine go (B := T29.setTop (mkF m 181 #[.val (.int p1), .val (.int p2), .val (.int p3), .val (.int p4), .val (.int p5), .val (.int p6), .val (.int (2 : Int32)), .val (.ref b1), .val (.int (r.toInt32))] [(.int (r.toInt32)), (.int (2 : Int32)), (.ref b1)])) (fun _ k => XS.iload X29.here hx rfl (hb hby at_179) rfl k) ?_
          refine go (B := T29.setTop (mkF m 182 #[.val (.int p1), .val (.int p2), .val (.int p3), .val (.int p4), .val (.int p5), .val (.int p6), .val (.int (2 : Int32)), .val (.ref b1), .val (.int (r.toInt32))] [(.int (4 : Int32)), (.int (r.toInt32)), (.int (2 : Int32)), (.ref b1)])) (fun _ k => XS.iconst X29.here hx rfl (hb hby at_181) k) ?_
          obtain ⟨_, _, ⟨T30, L30, k30, n30⟩, -, X30, ⟨Lc30, hQ30, l30, y30, z30⟩, st30⟩ := Jvm.LawKit.callS X29 hx (y := (⟨"com/example/cladestream/cladestream/ParticlesBestPinLaw", "ok", "([DIII)Z"⟩ : MethodName)) hown (mvT hZ (hw _ (List.mem_of_getElem? (i := 6) rfl))) (mvT hZ (hw _ (List.mem_of_getElem? (i := 7) rfl))) (mvT hZ (hw _ (List.mem_of_getElem? (i := 8) rfl))) (mvT hZ (hw _ (List.mem_of_getElem? (i := 9) rfl))) (by decide) (backOf (W := 0) (rm2 l Z a0 hw [] b1 (2 : Int32) (r.toInt32) (4 : Int32) [(((p2 &&& (15 : Int32)) - (8 : Int32)).toInt), (((p3 &&& (15 : Int32)) - (8 : Int32)).toInt)] r 4 h3 n0 Z3 DA (by show 2 < 2 ^ 31; decide) hr0 (by decide) rfl rfl rfl) hZ (hw _ (List.mem_of_getElem? (i := 9) rfl)) (hw _ (List.mem_of_getElem? (i := 8) rfl)) (by decide) (by decide)) (g := (mkF m 182 #[.val (.int p1), .val (.int p2), .val (.int p3), .val (.int p4), .val (.int p5), .val (.int p6), .val (.int (2 : Int32)), .val (.ref b1), .val (.int (r.toInt32))] [(.int (4 : Int32)), (.int (r.toInt32)), (.int (2 : Int32)), (.ref b1)])) rfl (by rw [hml]; rfl) (argsL := [(.ref b1), (.int (2 : Int32)), (.int (r.toInt32)), (.int (4 : Int32))]) (rest := []) (lenOf pd___DIII_Z rfl) rfl (by show 2 * 0 + _ ≤ _; exact Nat.le_of_eq rfl) (hb hby at_182) (fun _ _ => ⟨rfl, e29, (by decide : 1 + 0 ≤ _), (by decide : 5 + 0 ≤ _)⟩)
          dsimp only [Pt.U, Pt.locs, Pt.cells, Pt.slots] at X30 l30 y30 z30 st30 hQ30
          subst l30 y30 z30
          obtain ⟨rfl, N30q, e30⟩ := hQ30
          have N30 := Fr.app N29 N30q
          refine go (B := T30.setTop (mkF m 185 #[.val (.int p1), .val (.int p2), .val (.int p3), .val (.int p4), .val (.int p5), .val (.int p6), .val (.int (2 : Int32)), .val (.ref b1), .val (.int (r.toInt32))] [(.int (okF [(((p2 &&& (15 : Int32)) - (8 : Int32)).toInt), (((p3 &&& (15 : Int32)) - (8 : Int32)).toInt)] r 4))])) (fun _ k => st30 _ k) ?_
          have hc185 : ¬ ((okF [(((p2 &&& (15 : Int32)) - (8 : Int32)).toInt), (((p3 &&& (15 : Int32)) - (8 : Int32)).toInt)] r 4) = (0 : Int32)) := okF_one hr1 hr2 _
          refine go (B := T30.setTop (mkF m 188 #[.val (.int p1), .val (.int p2), .val (.int p3), .val (.int p4), .val (.int p5), .val (.int p6), .val (.int (2 : Int32)), .val (.ref b1), .val (.int (r.toInt32))] [])) (fun _ k => XS.ifNo X30.here hx rfl (hb hby at_185) rfl ((if0 _ _).trans (feq hc185).1) k) ?_
          refine go (B := T30.setTop (mkF m 189 #[.val (.int p1), .val (.int p2), .val (.int p3), .val (.int p4), .val (.int p5), .val (.int p6), .val (.int (2 : Int32)), .val (.ref b1), .val (.int (r.toInt32))] [(.int (1 : Int32))])) (fun _ k => XS.iconst X30.here hx rfl (hb hby at_188) k) ?_
          refine go (B := T30.setTop (mkF m 193 #[.val (.int p1), .val (.int p2), .val (.int p3), .val (.int p4), .val (.int p5), .val (.int p6), .val (.int (2 : Int32)), .val (.ref b1), .val (.int (r.toInt32))] [(.int (1 : Int32))])) (fun _ k => XS.goto X30.here hx rfl (pc0 := 189) (pc' := 193) rfl (hb hby at_189) (by decide) (by decide) k) ?_
          refine goRetN X30 hx (t := .boolean) Bd.returns (by simp) hlk (hb hby at_193) ?_ (by decide) (by decide)
          rw [e30]
          exact ⟨rfl, N30⟩
  · refine go (B := T2.setTop (mkF m 46 #[.val (.int p1), .val (.int p2), .val (.int p3), .val (.int p4), .val (.int p5), .val (.int p6), .val (.int n), .val (.ref b1), .unset] [])) (fun _ k => XS.icmpYes X2.here hx rfl (pc0 := 31) (pc' := 46) rfl (hb hby at_31) rfl (flt hc31).2.2.2 (by decide) (by decide) k) ?_
    refine go (B := T2.setTop (mkF m 48 #[.val (.int p1), .val (.int p2), .val (.int p3), .val (.int p4), .val (.int p5), .val (.int p6), .val (.int n), .val (.ref b1), .unset] [(.int n)])) (fun _ k => XS.iload X2.here hx rfl (hb hby at_46) rfl k) ?_
    refine go (B := T2.setTop (mkF m 49 #[.val (.int p1), .val (.int p2), .val (.int p3), .val (.int p4), .val (.int p5), .val (.int p6), .val (.int n), .val (.ref b1), .unset] [(.int (2 : Int32)), (.int n)])) (fun _ k => XS.iconst X2.here hx rfl (hb hby at_48) k) ?_
    by_cases hc49 : (2 : Int32) < n
    · exfalso
      simp only [Int32.lt_iff_toInt_lt, Int64.lt_iff_toInt_lt, ← Int32.toInt_inj, ← Int64.toInt_inj, Int32.reduceToInt, Int64.reduceToInt] at hc31 hc49
      omega
    · refine go (B := T2.setTop (mkF m 64 #[.val (.int p1), .val (.int p2), .val (.int p3), .val (.int p4), .val (.int p5), .val (.int p6), .val (.int n), .val (.ref b1), .unset] [])) (fun _ k => XS.icmpYes X2.here hx rfl (pc0 := 49) (pc' := 64) rfl (hb hby at_49) rfl (flt hc49).2.2.2 (by decide) (by decide) k) ?_
      refine go (B := T2.setTop (mkF m 66 #[.val (.int p1), .val (.int p2), .val (.int p3), .val (.int p4), .val (.int p5), .val (.int p6), .val (.int n), .val (.ref b1), .unset] [(.int n)])) (fun _ k => XS.iload X2.here hx rfl (hb hby at_64) rfl k) ?_
      refine go (B := T2.setTop (mkF m 67 #[.val (.int p1), .val (.int p2), .val (.int p3), .val (.int p4), .val (.int p5), .val (.int p6), .val (.int n), .val (.ref b1), .unset] [(.int (3 : Int32)), (.int n)])) (fun _ k => XS.iconst X2.here hx rfl (hb hby at_66) k) ?_
      by_cases hc67 : (3 : Int32) < n
      · exfalso
        simp only [Int32.lt_iff_toInt_lt, Int64.lt_iff_toInt_lt, ← Int32.toInt_inj, ← Int64.toInt_inj, Int32.reduceToInt, Int64.reduceToInt] at hc31 hc49 hc67
        omega
      · refine go (B := T2.setTop (mkF m 83 #[.val (.int p1), .val (.int p2), .val (.int p3), .val (.int p4), .val (.int p5), .val (.int p6), .val (.int n), .val (.ref b1), .unset] [])) (fun _ k => XS.icmpYes X2.here hx rfl (pc0 := 67) (pc' := 83) rfl (hb hby at_67) rfl (flt hc67).2.2.2 (by decide) (by decide) k) ?_
        refine go (B := T2.setTop (mkF m 85 #[.val (.int p1), .val (.int p2), .val (.int p3), .val (.int p4), .val (.int p5), .val (.int p6), .val (.int n), .val (.ref b1), .unset] [(.int n)])) (fun _ k => XS.iload X2.here hx rfl (hb hby at_83) rfl k) ?_
        refine go (B := T2.setTop (mkF m 86 #[.val (.int p1), .val (.int p2), .val (.int p3), .val (.int p4), .val (.int p5), .val (.int p6), .val (.int n), .val (.ref b1), .unset] [(.int (4 : Int32)), (.int n)])) (fun _ k => XS.iconst X2.here hx rfl (hb hby at_85) k) ?_
        by_cases hc86 : (4 : Int32) < n
        · exfalso
          simp only [Int32.lt_iff_toInt_lt, Int64.lt_iff_toInt_lt, ← Int32.toInt_inj, ← Int64.toInt_inj, Int32.reduceToInt, Int64.reduceToInt] at hc31 hc49 hc67 hc86
          omega
        · refine go (B := T2.setTop (mkF m 102 #[.val (.int p1), .val (.int p2), .val (.int p3), .val (.int p4), .val (.int p5), .val (.int p6), .val (.int n), .val (.ref b1), .unset] [])) (fun _ k => XS.icmpYes X2.here hx rfl (pc0 := 86) (pc' := 102) rfl (hb hby at_86) rfl (flt hc86).2.2.2 (by decide) (by decide) k) ?_
          have hn : n = (1 : Int32) := by
            simp only [Int32.lt_iff_toInt_lt, Int64.lt_iff_toInt_lt, ← Int32.toInt_inj, ← Int64.toInt_inj, Int32.reduceToInt, Int64.reduceToInt] at hc31 hc49 hc67 hc86
            rw [← Int32.toInt_inj]
            have c : (1 : Int32).toInt = 1 := by decide
            omega
          subst hn
          have DA : DArr Z h2 b1 [(((p2 &&& (15 : Int32)) - (8 : Int32)).toInt)] := DArr.of V2 rfl ⟨⟨_, rfl, (FP.Core.i2d_int ((p2 &&& (15 : Int32)) - (8 : Int32)))⟩, trivial⟩
          refine go (B := T2.setTop (mkF m 104 #[.val (.int p1), .val (.int p2), .val (.int p3), .val (.int p4), .val (.int p5), .val (.int p6), .val (.int (1 : Int32)), .val (.ref b1), .unset] [(.ref b1)])) (fun _ k => XS.aload X2.here hx rfl (hb hby at_102) rfl rfl k) ?_
          obtain ⟨_, _, ⟨T31, L31, k31, n31⟩, -, X31, ⟨Lc31, hQ31, l31, y31, z31⟩, st31⟩ := Jvm.LawKit.callS X2 hx (y := (⟨"com/example/cladestream/cladestream/Particles", "best", "([D)I"⟩ : MethodName)) hown (mvT hZ (hw _ (List.mem_of_getElem? (i := 2) rfl))) (mvT hZ (hw _ (List.mem_of_getElem? (i := 3) rfl))) (mvT hZ (hw _ (List.mem_of_getElem? (i := 4) rfl))) (mvT hZ (hw _ (List.mem_of_getElem? (i := 5) rfl))) (by decide) (backOf (W := 0) (rm1 l Z a0 hw [] b1 [(((p2 &&& (15 : Int32)) - (8 : Int32)).toInt)] h2 n0 Z2 DA (by show 1 < 2 ^ 31; decide) (by show 0 < 1; decide)) hZ (hw _ (List.mem_of_getElem? (i := 5) rfl)) (hw _ (List.mem_of_getElem? (i := 4) rfl)) (by decide) (by decide)) (g := (mkF m 104 #[.val (.int p1), .val (.int p2), .val (.int p3), .val (.int p4), .val (.int p5), .val (.int p6), .val (.int (1 : Int32)), .val (.ref b1), .unset] [(.ref b1)])) rfl (by rw [hml]; rfl) (argsL := [(.ref b1)]) (rest := []) (lenOf pd___D_I rfl) rfl (by show 2 * 0 + _ ≤ _; exact Nat.le_of_eq rfl) (hb hby at_104) (fun _ _ => ⟨rfl, e2, (by decide : 1 + 0 ≤ _), (by decide : 5 + 0 ≤ _)⟩)
          dsimp only [Pt.U, Pt.locs, Pt.cells, Pt.slots] at X31 l31 y31 z31 st31 hQ31
          subst l31 y31 z31
          obtain ⟨r, rfl, N31q, eB, hr0, hr1, hr2⟩ := hQ31
          have N31 := Fr.app N2 N31q
          refine go (B := T31.setTop (mkF m 107 #[.val (.int p1), .val (.int p2), .val (.int p3), .val (.int p4), .val (.int p5), .val (.int p6), .val (.int (1 : Int32)), .val (.ref b1), .unset] [(.int (r.toInt32))])) (fun _ k => st31 _ k) ?_
          refine go (B := T31.setTop (mkF m 109 #[.val (.int p1), .val (.int p2), .val (.int p3), .val (.int p4), .val (.int p5), .val (.int p6), .val (.int (1 : Int32)), .val (.ref b1), .val (.int (r.toInt32))] [])) (fun _ k => XS.istore X31.here hx rfl (hb hby at_107) rfl (l' := #[.val (.int p1), .val (.int p2), .val (.int p3), .val (.int p4), .val (.int p5), .val (.int p6), .val (.int (1 : Int32)), .val (.ref b1), .val (.int (r.toInt32))]) rfl k) ?_
          refine go (B := T31.setTop (mkF m 111 #[.val (.int p1), .val (.int p2), .val (.int p3), .val (.int p4), .val (.int p5), .val (.int p6), .val (.int (1 : Int32)), .val (.ref b1), .val (.int (r.toInt32))] [(.int (r.toInt32))])) (fun _ k => XS.iload X31.here hx rfl (hb hby at_109) rfl k) ?_
          have hc111 : ¬ ((r.toInt32) < (0 : Int32)) := (fun q => by have z : r < 1 := hr0; rw [Int32.lt_iff_toInt_lt, len_toInt (by omega)] at q; have c0 : (0 : Int32).toInt = 0 := (by decide); omega)
          refine go (B := T31.setTop (mkF m 114 #[.val (.int p1), .val (.int p2), .val (.int p3), .val (.int p4), .val (.int p5), .val (.int p6), .val (.int (1 : Int32)), .val (.ref b1), .val (.int (r.toInt32))] [])) (fun _ k => XS.ifNo X31.here hx rfl (hb hby at_111) rfl ((if0 _ _).trans (flt hc111).1) k) ?_
          refine go (B := T31.setTop (mkF m 116 #[.val (.int p1), .val (.int p2), .val (.int p3), .val (.int p4), .val (.int p5), .val (.int p6), .val (.int (1 : Int32)), .val (.ref b1), .val (.int (r.toInt32))] [(.int (r.toInt32))])) (fun _ k => XS.iload X31.here hx rfl (hb hby at_114) rfl k) ?_
          refine go (B := T31.setTop (mkF m 118 #[.val (.int p1), .val (.int p2), .val (.int p3), .val (.int p4), .val (.int p5), .val (.int p6), .val (.int (1 : Int32)), .val (.ref b1), .val (.int (r.toInt32))] [(.int (1 : Int32)), (.int (r.toInt32))])) (fun _ k => XS.iload X31.here hx rfl (hb hby at_116) rfl k) ?_
          have hc118 : (r.toInt32) < (1 : Int32) := (ltN (i := r) (j := 1) (Nat.lt_trans (show r < 1 from hr0) (by decide)) (by decide)).mpr hr0
          refine go (B := T31.setTop (mkF m 123 #[.val (.int p1), .val (.int p2), .val (.int p3), .val (.int p4), .val (.int p5), .val (.int p6), .val (.int (1 : Int32)), .val (.ref b1), .val (.int (r.toInt32))] [])) (fun _ k => XS.icmpYes X31.here hx rfl (pc0 := 118) (pc' := 123) rfl (hb hby at_118) rfl (tlt hc118).1 (by decide) (by decide) k) ?_
          refine go (B := T31.setTop (mkF m 125 #[.val (.int p1), .val (.int p2), .val (.int p3), .val (.int p4), .val (.int p5), .val (.int p6), .val (.int (1 : Int32)), .val (.ref b1), .val (.int (r.toInt32))] [(.ref b1)])) (fun _ k => XS.aload X31.here hx rfl (hb hby at_123) rfl rfl k) ?_
          refine go (B := T31.setTop (mkF m 127 #[.val (.int p1), .val (.int p2), .val (.int p3), .val (.int p4), .val (.int p5), .val (.int p6), .val (.int (1 : Int32)), .val (.ref b1), .val (.int (r.toInt32))] [(.int (1 : Int32)), (.ref b1)])) (fun _ k => XS.iload X31.here hx rfl (hb hby at_125) rfl k) ?_
          refine go (B := T31.setTop (mkF m 129 #[.val (.int p1), .val (.int p2), .val (.int p3), .val (.int p4), .val (.int p5), .val (.int p6), .val (.int (1 : Int32)), .val (.ref b1), .val (.int (r.toInt32))] [(.int (r.toInt32)), (.int (1 : Int32)), (.ref b1)])) (fun _ k => XS.iload X31.here hx rfl (hb hby at_127) rfl k) ?_
          refine go (B := T31.setTop (mkF m 130 #[.val (.int p1), .val (.int p2), .val (.int p3), .val (.int p4), .val (.int p5), .val (.int p6), .val (.int (1 : Int32)), .val (.ref b1), .val (.int (r.toInt32))] [(.int (0 : Int32)), (.int (r.toInt32)), (.int (1 : Int32)), (.ref b1)])) (fun _ k => XS.iconst X31.here hx rfl (hb hby at_129) k) ?_
          obtain ⟨_, _, ⟨T32, L32, k32, n32⟩, -, X32, ⟨Lc32, hQ32, l32, y32, z32⟩, st32⟩ := Jvm.LawKit.callS X31 hx (y := (⟨"com/example/cladestream/cladestream/ParticlesBestPinLaw", "ok", "([DIII)Z"⟩ : MethodName)) hown (mvT hZ (hw _ (List.mem_of_getElem? (i := 6) rfl))) (mvT hZ (hw _ (List.mem_of_getElem? (i := 7) rfl))) (mvT hZ (hw _ (List.mem_of_getElem? (i := 8) rfl))) (mvT hZ (hw _ (List.mem_of_getElem? (i := 9) rfl))) (by decide) (backOf (W := 0) (rm2 l Z a0 hw [] b1 (1 : Int32) (r.toInt32) (0 : Int32) [(((p2 &&& (15 : Int32)) - (8 : Int32)).toInt)] r 0 h2 n0 Z2 DA (by show 1 < 2 ^ 31; decide) hr0 (by decide) rfl rfl rfl) hZ (hw _ (List.mem_of_getElem? (i := 9) rfl)) (hw _ (List.mem_of_getElem? (i := 8) rfl)) (by decide) (by decide)) (g := (mkF m 130 #[.val (.int p1), .val (.int p2), .val (.int p3), .val (.int p4), .val (.int p5), .val (.int p6), .val (.int (1 : Int32)), .val (.ref b1), .val (.int (r.toInt32))] [(.int (0 : Int32)), (.int (r.toInt32)), (.int (1 : Int32)), (.ref b1)])) rfl (by rw [hml]; rfl) (argsL := [(.ref b1), (.int (1 : Int32)), (.int (r.toInt32)), (.int (0 : Int32))]) (rest := []) (lenOf pd___DIII_Z rfl) rfl (by show 2 * 0 + _ ≤ _; exact Nat.le_of_eq rfl) (hb hby at_130) (fun _ _ => ⟨rfl, eB, (by decide : 1 + 0 ≤ _), (by decide : 5 + 0 ≤ _)⟩)
          dsimp only [Pt.U, Pt.locs, Pt.cells, Pt.slots] at X32 l32 y32 z32 st32 hQ32
          subst l32 y32 z32
          obtain ⟨rfl, N32q, e32⟩ := hQ32
          have N32 := Fr.app N31 N32q
          refine go (B := T32.setTop (mkF m 133 #[.val (.int p1), .val (.int p2), .val (.int p3), .val (.int p4), .val (.int p5), .val (.int p6), .val (.int (1 : Int32)), .val (.ref b1), .val (.int (r.toInt32))] [(.int (okF [(((p2 &&& (15 : Int32)) - (8 : Int32)).toInt)] r 0))])) (fun _ k => st32 _ k) ?_
          have hc133 : ¬ ((okF [(((p2 &&& (15 : Int32)) - (8 : Int32)).toInt)] r 0) = (0 : Int32)) := okF_one hr1 hr2 _
          refine go (B := T32.setTop (mkF m 136 #[.val (.int p1), .val (.int p2), .val (.int p3), .val (.int p4), .val (.int p5), .val (.int p6), .val (.int (1 : Int32)), .val (.ref b1), .val (.int (r.toInt32))] [])) (fun _ k => XS.ifNo X32.here hx rfl (hb hby at_133) rfl ((if0 _ _).trans (feq hc133).1) k) ?_
          refine go (B := T32.setTop (mkF m 138 #[.val (.int p1), .val (.int p2), .val (.int p3), .val (.int p4), .val (.int p5), .val (.int p6), .val (.int (1 : Int32)), .val (.ref b1), .val (.int (r.toInt32))] [(.ref b1)])) (fun _ k => XS.aload X32.here hx rfl (hb hby at_136) rfl rfl k) ?_
          refine go (B := T32.setTop (mkF m 140 #[.val (.int p1), .val (.int p2), .val (.int p3), .val (.int p4), .val (.int p5), .val (.int p6), .val (.int (1 : Int32)), .val (.ref b1), .val (.int (r.toInt32))] [(.int (1 : Int32)), (.ref b1)])) (fun _ k => XS.iload X32.here hx rfl (hb hby at_138) rfl k) ?_
          refine go (B := T32.setTop (mkF m 142 #[.val (.int p1), .val (.int p2), .val (.int p3), .val (.int p4), .val (.int p5), .val (.int p6), .val (.int (1 : Int32)), .val (.ref b1), .val (.int (r.toInt32))] [(.int (r.toInt32)), (.int (1 : Int32)), (.ref b1)])) (fun _ k => XS.iload X32.here hx rfl (hb hby at_140) rfl k) ?_
          refine go (B := T32.setTop (mkF m 143 #[.val (.int p1), .val (.int p2), .val (.int p3), .val (.int p4), .val (.int p5), .val (.int p6), .val (.int (1 : Int32)), .val (.ref b1), .val (.int (r.toInt32))] [(.int (1 : Int32)), (.int (r.toInt32)), (.int (1 : Int32)), (.ref b1)])) (fun _ k => XS.iconst X32.here hx rfl (hb hby at_142) k) ?_
          obtain ⟨_, _, ⟨T33, L33, k33, n33⟩, -, X33, ⟨Lc33, hQ33, l33, y33, z33⟩, st33⟩ := Jvm.LawKit.callS X32 hx (y := (⟨"com/example/cladestream/cladestream/ParticlesBestPinLaw", "ok", "([DIII)Z"⟩ : MethodName)) hown (mvT hZ (hw _ (List.mem_of_getElem? (i := 6) rfl))) (mvT hZ (hw _ (List.mem_of_getElem? (i := 7) rfl))) (mvT hZ (hw _ (List.mem_of_getElem? (i := 8) rfl))) (mvT hZ (hw _ (List.mem_of_getElem? (i := 9) rfl))) (by decide) (backOf (W := 0) (rm2 l Z a0 hw [] b1 (1 : Int32) (r.toInt32) (1 : Int32) [(((p2 &&& (15 : Int32)) - (8 : Int32)).toInt)] r 1 h2 n0 Z2 DA (by show 1 < 2 ^ 31; decide) hr0 (by decide) rfl rfl rfl) hZ (hw _ (List.mem_of_getElem? (i := 9) rfl)) (hw _ (List.mem_of_getElem? (i := 8) rfl)) (by decide) (by decide)) (g := (mkF m 143 #[.val (.int p1), .val (.int p2), .val (.int p3), .val (.int p4), .val (.int p5), .val (.int p6), .val (.int (1 : Int32)), .val (.ref b1), .val (.int (r.toInt32))] [(.int (1 : Int32)), (.int (r.toInt32)), (.int (1 : Int32)), (.ref b1)])) rfl (by rw [hml]; rfl) (argsL := [(.ref b1), (.int (1 : Int32)), (.int (r.toInt32)), (.int (1 : Int32))]) (rest := []) (lenOf pd___DIII_Z rfl) rfl (by show 2 * 0 + _ ≤ _; exact Nat.le_of_eq rfl) (hb hby at_143) (fun _ _ => ⟨rfl, e32, (by decide : 1 + 0 ≤ _), (by decide : 5 + 0 ≤ _)⟩)
          dsimp only [Pt.U, Pt.locs, Pt.cells, Pt.slots] at X33 l33 y33 z33 st33 hQ33
          subst l33 y33 z33
          obtain ⟨rfl, N33q, e33⟩ := hQ33
          have N33 := Fr.app N32 N33q
          refine go (B := T33.setTop (mkF m 146 #[.val (.int p1), .val (.int p2), .val (.int p3), .val (.int p4), .val (.int p5), .val (.int p6), .val (.int (1 : Int32)), .val (.ref b1), .val (.int (r.toInt32))] [(.int (okF [(((p2 &&& (15 : Int32)) - (8 : Int32)).toInt)] r 1))])) (fun _ k => st33 _ k) ?_
          have hc146 : ¬ ((okF [(((p2 &&& (15 : Int32)) - (8 : Int32)).toInt)] r 1) = (0 : Int32)) := okF_one hr1 hr2 _
          refine go (B := T33.setTop (mkF m 149 #[.val (.int p1), .val (.int p2), .val (.int p3), .val (.int p4), .val (.int p5), .val (.int p6), .val (.int (1 : Int32)), .val (.ref b1), .val (.int (r.toInt32))] [])) (fun _ k => XS.ifNo X33.here hx rfl (hb hby at_146) rfl ((if0 _ _).trans (feq hc146).1) k) ?_
          refine go (B := T33.setTop (mkF m 151 #[.val (.int p1), .val (.int p2), .val (.int p3), .val (.int p4), .val (.int p5), .val (.int p6), .val (.int (1 : Int32)), .val (.ref b1), .val (.int (r.toInt32))] [(.ref b1)])) (fun _ k => XS.aload X33.here hx rfl (hb hby at_149) rfl rfl k) ?_
          refine go (B := T33.setTop (mkF m 153 #[.val (.int p1), .val (.int p2), .val (.int p3), .val (.int p4), .val (.int p5), .val (.int p6), .val (.int (1 : Int32)), .val (.ref b1), .val (.int (r.toInt32))] [(.int (1 : Int32)), (.ref b1)])) (fun _ k => XS.iload X33.here hx rfl (hb hby at_151) rfl k) ?_
          refine go (B := T33.setTop (mkF m 155 #[.val (.int p1), .val (.int p2), .val (.int p3), .val (.int p4), .val (.int p5), .val (.int p6), .val (.int (1 : Int32)), .val (.ref b1), .val (.int (r.toInt32))] [(.int (r.toInt32)), (.int (1 : Int32)), (.ref b1)])) (fun _ k => XS.iload X33.here hx rfl (hb hby at_153) rfl k) ?_
          refine go (B := T33.setTop (mkF m 156 #[.val (.int p1), .val (.int p2), .val (.int p3), .val (.int p4), .val (.int p5), .val (.int p6), .val (.int (1 : Int32)), .val (.ref b1), .val (.int (r.toInt32))] [(.int (2 : Int32)), (.int (r.toInt32)), (.int (1 : Int32)), (.ref b1)])) (fun _ k => XS.iconst X33.here hx rfl (hb hby at_155) k) ?_
          obtain ⟨_, _, ⟨T34, L34, k34, n34⟩, -, X34, ⟨Lc34, hQ34, l34, y34, z34⟩, st34⟩ := Jvm.LawKit.callS X33 hx (y := (⟨"com/example/cladestream/cladestream/ParticlesBestPinLaw", "ok", "([DIII)Z"⟩ : MethodName)) hown (mvT hZ (hw _ (List.mem_of_getElem? (i := 6) rfl))) (mvT hZ (hw _ (List.mem_of_getElem? (i := 7) rfl))) (mvT hZ (hw _ (List.mem_of_getElem? (i := 8) rfl))) (mvT hZ (hw _ (List.mem_of_getElem? (i := 9) rfl))) (by decide) (backOf (W := 0) (rm2 l Z a0 hw [] b1 (1 : Int32) (r.toInt32) (2 : Int32) [(((p2 &&& (15 : Int32)) - (8 : Int32)).toInt)] r 2 h2 n0 Z2 DA (by show 1 < 2 ^ 31; decide) hr0 (by decide) rfl rfl rfl) hZ (hw _ (List.mem_of_getElem? (i := 9) rfl)) (hw _ (List.mem_of_getElem? (i := 8) rfl)) (by decide) (by decide)) (g := (mkF m 156 #[.val (.int p1), .val (.int p2), .val (.int p3), .val (.int p4), .val (.int p5), .val (.int p6), .val (.int (1 : Int32)), .val (.ref b1), .val (.int (r.toInt32))] [(.int (2 : Int32)), (.int (r.toInt32)), (.int (1 : Int32)), (.ref b1)])) rfl (by rw [hml]; rfl) (argsL := [(.ref b1), (.int (1 : Int32)), (.int (r.toInt32)), (.int (2 : Int32))]) (rest := []) (lenOf pd___DIII_Z rfl) rfl (by show 2 * 0 + _ ≤ _; exact Nat.le_of_eq rfl) (hb hby at_156) (fun _ _ => ⟨rfl, e33, (by decide : 1 + 0 ≤ _), (by decide : 5 + 0 ≤ _)⟩)
          dsimp only [Pt.U, Pt.locs, Pt.cells, Pt.slots] at X34 l34 y34 z34 st34 hQ34
          subst l34 y34 z34
          obtain ⟨rfl, N34q, e34⟩ := hQ34
          have N34 := Fr.app N33 N34q
          refine go (B := T34.setTop (mkF m 159 #[.val (.int p1), .val (.int p2), .val (.int p3), .val (.int p4), .val (.int p5), .val (.int p6), .val (.int (1 : Int32)), .val (.ref b1), .val (.int (r.toInt32))] [(.int (okF [(((p2 &&& (15 : Int32)) - (8 : Int32)).toInt)] r 2))])) (fun _ k => st34 _ k) ?_
          have hc159 : ¬ ((okF [(((p2 &&& (15 : Int32)) - (8 : Int32)).toInt)] r 2) = (0 : Int32)) := okF_one hr1 hr2 _
          refine go (B := T34.setTop (mkF m 162 #[.val (.int p1), .val (.int p2), .val (.int p3), .val (.int p4), .val (.int p5), .val (.int p6), .val (.int (1 : Int32)), .val (.ref b1), .val (.int (r.toInt32))] [])) (fun _ k => XS.ifNo X34.here hx rfl (hb hby at_159) rfl ((if0 _ _).trans (feq hc159).1) k) ?_
          refine go (B := T34.setTop (mkF m 164 #[.val (.int p1), .val (.int p2), .val (.int p3), .val (.int p4), .val (.int p5), .val (.int p6), .val (.int (1 : Int32)), .val (.ref b1), .val (.int (r.toInt32))] [(.ref b1)])) (fun _ k => XS.aload X34.here hx rfl (hb hby at_162) rfl rfl k) ?_
          refine go (B := T34.setTop (mkF m 166 #[.val (.int p1), .val (.int p2), .val (.int p3), .val (.int p4), .val (.int p5), .val (.int p6), .val (.int (1 : Int32)), .val (.ref b1), .val (.int (r.toInt32))] [(.int (1 : Int32)), (.ref b1)])) (fun _ k => XS.iload X34.here hx rfl (hb hby at_164) rfl k) ?_
          refine go (B := T34.setTop (mkF m 168 #[.val (.int p1), .val (.int p2), .val (.int p3), .val (.int p4), .val (.int p5), .val (.int p6), .val (.int (1 : Int32)), .val (.ref b1), .val (.int (r.toInt32))] [(.int (r.toInt32)), (.int (1 : Int32)), (.ref b1)])) (fun _ k => XS.iload X34.here hx rfl (hb hby at_166) rfl k) ?_
          refine go (B := T34.setTop (mkF m 169 #[.val (.int p1), .val (.int p2), .val (.int p3), .val (.int p4), .val (.int p5), .val (.int p6), .val (.int (1 : Int32)), .val (.ref b1), .val (.int (r.toInt32))] [(.int (3 : Int32)), (.int (r.toInt32)), (.int (1 : Int32)), (.ref b1)])) (fun _ k => XS.iconst X34.here hx rfl (hb hby at_168) k) ?_
          obtain ⟨_, _, ⟨T35, L35, k35, n35⟩, -, X35, ⟨Lc35, hQ35, l35, y35, z35⟩, st35⟩ := Jvm.LawKit.callS X34 hx (y := (⟨"com/example/cladestream/cladestream/ParticlesBestPinLaw", "ok", "([DIII)Z"⟩ : MethodName)) hown (mvT hZ (hw _ (List.mem_of_getElem? (i := 6) rfl))) (mvT hZ (hw _ (List.mem_of_getElem? (i := 7) rfl))) (mvT hZ (hw _ (List.mem_of_getElem? (i := 8) rfl))) (mvT hZ (hw _ (List.mem_of_getElem? (i := 9) rfl))) (by decide) (backOf (W := 0) (rm2 l Z a0 hw [] b1 (1 : Int32) (r.toInt32) (3 : Int32) [(((p2 &&& (15 : Int32)) - (8 : Int32)).toInt)] r 3 h2 n0 Z2 DA (by show 1 < 2 ^ 31; decide) hr0 (by decide) rfl rfl rfl) hZ (hw _ (List.mem_of_getElem? (i := 9) rfl)) (hw _ (List.mem_of_getElem? (i := 8) rfl)) (by decide) (by decide)) (g := (mkF m 169 #[.val (.int p1), .val (.int p2), .val (.int p3), .val (.int p4), .val (.int p5), .val (.int p6), .val (.int (1 : Int32)), .val (.ref b1), .val (.int (r.toInt32))] [(.int (3 : Int32)), (.int (r.toInt32)), (.int (1 : Int32)), (.ref b1)])) rfl (by rw [hml]; rfl) (argsL := [(.ref b1), (.int (1 : Int32)), (.int (r.toInt32)), (.int (3 : Int32))]) (rest := []) (lenOf pd___DIII_Z rfl) rfl (by show 2 * 0 + _ ≤ _; exact Nat.le_of_eq rfl) (hb hby at_169) (fun _ _ => ⟨rfl, e34, (by decide : 1 + 0 ≤ _), (by decide : 5 + 0 ≤ _)⟩)
          dsimp only [Pt.U, Pt.locs, Pt.cells, Pt.slots] at X35 l35 y35 z35 st35 hQ35
          subst l35 y35 z35
          obtain ⟨rfl, N35q, e35⟩ := hQ35
          have N35 := Fr.app N34 N35q
          refine go (B := T35.setTop (mkF m 172 #[.val (.int p1), .val (.int p2), .val (.int p3), .val (.int p4), .val (.int p5), .val (.int p6), .val (.int (1 : Int32)), .val (.ref b1), .val (.int (r.toInt32))] [(.int (okF [(((p2 &&& (15 : Int32)) - (8 : Int32)).toInt)] r 3))])) (fun _ k => st35 _ k) ?_
          have hc172 : ¬ ((okF [(((p2 &&& (15 : Int32)) - (8 : Int32)).toInt)] r 3) = (0 : Int32)) := okF_one hr1 hr2 _
          refine go (B := T35.setTop (mkF m 175 #[.val (.int p1), .val (.int p2), .val (.int p3), .val (.int p4), .val (.int p5), .val (.int p6), .val (.int (1 : Int32)), .val (.ref b1), .val (.int (r.toInt32))] [])) (fun _ k => XS.ifNo X35.here hx rfl (hb hby at_172) rfl ((if0 _ _).trans (feq hc172).1) k) ?_
          refine go (B := T35.setTop (mkF m 177 #[.val (.int p1), .val (.int p2), .val (.int p3), .val (.int p4), .val (.int p5), .val (.int p6), .val (.int (1 : Int32)), .val (.ref b1), .val (.int (r.toInt32))] [(.ref b1)])) (fun _ k => XS.aload X35.here hx rfl (hb hby at_175) rfl rfl k) ?_
          refine go (B := T35.setTop (mkF m 179 #[.val (.int p1), .val (.int p2), .val (.int p3), .val (.int p4), .val (.int p5), .val (.int p6), .val (.int (1 : Int32)), .val (.ref b1), .val (.int (r.toInt32))] [(.int (1 : Int32)), (.ref b1)])) (fun _ k => XS.iload X35.here hx rfl (hb hby at_177) rfl k) ?_
          refine go (B := T35.setTop (mkF m 181 #[.val (.int p1), .val (.int p2), .val (.int p3), .val (.int p4), .val (.int p5), .val (.int p6), .val (.int (1 : Int32)), .val (.ref b1), .val (.int (r.toInt32))] [(.int (r.toInt32)), (.int (1 : Int32)), (.ref b1)])) (fun _ k => XS.iload X35.here hx rfl (hb hby at_179) rfl k) ?_
          refine go (B := T35.setTop (mkF m 182 #[.val (.int p1), .val (.int p2), .val (.int p3), .val (.int p4), .val (.int p5), .val (.int p6), .val (.int (1 : Int32)), .val (.ref b1), .val (.int (r.toInt32))] [(.int (4 : Int32)), (.int (r.toInt32)), (.int (1 : Int32)), (.ref b1)])) (fun _ k => XS.iconst X35.here hx rfl (hb hby at_181) k) ?_
          obtain ⟨_, _, ⟨T36, L36, k36, n36⟩, -, X36, ⟨Lc36, hQ36, l36, y36, z36⟩, st36⟩ := Jvm.LawKit.callS X35 hx (y := (⟨"com/example/cladestream/cladestream/ParticlesBestPinLaw", "ok", "([DIII)Z"⟩ : MethodName)) hown (mvT hZ (hw _ (List.mem_of_getElem? (i := 6) rfl))) (mvT hZ (hw _ (List.mem_of_getElem? (i := 7) rfl))) (mvT hZ (hw _ (List.mem_of_getElem? (i := 8) rfl))) (mvT hZ (hw _ (List.mem_of_getElem? (i := 9) rfl))) (by decide) (backOf (W := 0) (rm2 l Z a0 hw [] b1 (1 : Int32) (r.toInt32) (4 : Int32) [(((p2 &&& (15 : Int32)) - (8 : Int32)).toInt)] r 4 h2 n0 Z2 DA (by show 1 < 2 ^ 31; decide) hr0 (by decide) rfl rfl rfl) hZ (hw _ (List.mem_of_getElem? (i := 9) rfl)) (hw _ (List.mem_of_getElem? (i := 8) rfl)) (by decide) (by decide)) (g := (mkF m 182 #[.val (.int p1), .val (.int p2), .val (.int p3), .val (.int p4), .val (.int p5), .val (.int p6), .val (.int (1 : Int32)), .val (.ref b1), .val (.int (r.toInt32))] [(.int (4 : Int32)), (.int (r.toInt32)), (.int (1 : Int32)), (.ref b1)])) rfl (by rw [hml]; rfl) (argsL := [(.ref b1), (.int (1 : Int32)), (.int (r.toInt32)), (.int (4 : Int32))]) (rest := []) (lenOf pd___DIII_Z rfl) rfl (by show 2 * 0 + _ ≤ _; exact Nat.le_of_eq rfl) (hb hby at_182) (fun _ _ => ⟨rfl, e35, (by decide : 1 + 0 ≤ _), (by decide : 5 + 0 ≤ _)⟩)
          dsimp only [Pt.U, Pt.locs, Pt.cells, Pt.slots] at X36 l36 y36 z36 st36 hQ36
          subst l36 y36 z36
          obtain ⟨rfl, N36q, e36⟩ := hQ36
          have N36 := Fr.app N35 N36q
          refine go (B := T36.setTop (mkF m 185 #[.val (.int p1), .val (.int p2), .val (.int p3), .val (.int p4), .val (.int p5), .val (.int p6), .val (.int (1 : Int32)), .val (.ref b1), .val (.int (r.toInt32))] [(.int (okF [(((p2 &&& (15 : Int32)) - (8 : Int32)).toInt)] r 4))])) (fun _ k => st36 _ k) ?_
          have hc185 : ¬ ((okF [(((p2 &&& (15 : Int32)) - (8 : Int32)).toInt)] r 4) = (0 : Int32)) := okF_one hr1 hr2 _
          refine go (B := T36.setTop (mkF m 188 #[.val (.int p1), .val (.int p2), .val (.int p3), .val (.int p4), .val (.int p5), .val (.int p6), .val (.int (1 : Int32)), .val (.ref b1), .val (.int (r.toInt32))] [])) (fun _ k => XS.ifNo X36.here hx rfl (hb hby at_185) rfl ((if0 _ _).trans (feq hc185).1) k) ?_
          refine go (B := T36.setTop (mkF m 189 #[.val (.int p1), .val (.int p2), .val (.int p3), .val (.int p4), .val (.int p5), .val (.int p6), .val (.int (1 : Int32)), .val (.ref b1), .val (.int (r.toInt32))] [(.int (1 : Int32))])) (fun _ k => XS.iconst X36.here hx rfl (hb hby at_188) k) ?_
          refine go (B := T36.setTop (mkF m 193 #[.val (.int p1), .val (.int p2), .val (.int p3), .val (.int p4), .val (.int p5), .val (.int p6), .val (.int (1 : Int32)), .val (.ref b1), .val (.int (r.toInt32))] [(.int (1 : Int32))])) (fun _ k => XS.goto X36.here hx rfl (pc0 := 189) (pc' := 193) rfl (hb hby at_189) (by decide) (by decide) k) ?_
          refine goRetN X36 hx (t := .boolean) Bd.returns (by simp) hlk (hb hby at_193) ?_ (by decide) (by decide)
          rw [e36]
          exact ⟨rfl, N36⟩
set_option maxRecDepth 65536 in
set_option maxHeartbeats 40000000 in
theorem comes_1 {Post : Tables → Env → Array Value → State → Outcome → State → Prop} (hpost : ∀ tb e args s v u, (limb_1_1.after args s (.returned v) u = true ∧ limb_1_2.after args s (.returned v) u = true ∧ True) → FrameEnd s (.returned v) u (Jvm.fieldLocs frame_1_writes args s ++ Jvm.arrayLocs frame_1_arrays args s ++ Jvm.staticLocs frame_1_statics s) 16 128 → Post tb e args s (.returned v) u) :
    ArmFor flags0 classFile x code maxLocals ret World_1 tables_1 room_1 Calls_1 rest_1 Pre_1 Post := by
  intro l hfl _ _ p e ha hc hk s m args below hf hA hF happ hP
  obtain ⟨hcalls, hrest, hpre⟩ := hP
  obtain ⟨-, -, -, hnamed, -, -, -, hat⟩ := (Spec.applies_iff hf).mp happ
  obtain ⟨hg, hn⟩ := and_e (Cond.before_iff.mp (show (Jvm.Cond.and given_1 narrow_1).before args s = true from hpre))
  obtain ⟨hcnt, gg0⟩ := and_e hg
  obtain ⟨ga0, gg1⟩ := and_e gg0
  obtain ⟨ga1, gg2⟩ := and_e gg1
  obtain ⟨ga2, gg3⟩ := and_e gg2
  obtain ⟨ga3, gg4⟩ := and_e gg3
  obtain ⟨ga4, gg5⟩ := and_e gg4
  obtain ⟨w0, w1, w2, w3, w4, w5, rfl⟩ : ∃ w0 w1 w2 w3 w4 w5 : Value, args = #[w0, w1, w2, w3, w4, w5] := by
    have hs : args.size = 6 := by simpa [Cond.value, given_1] using hcnt
    obtain ⟨L⟩ := args
    match L, hs with
    | [w0, w1, w2, w3, w4, w5], _ => exact ⟨w0, w1, w2, w3, w4, w5, rfl⟩
  have hw := fun d (hd : d ∈ tables_1) => atoms_spec (ws := Jvm.Cond.code x code maxLocals ret :: tables_1) hat d (List.mem_cons_of_mem _ hd)
  have hfit : Fit s := fun {y c} hc i hi => by
    obtain ⟨ha, rfl⟩ := Array.getElem?_eq_some_iff.mp hc
    have q := List.all_eq_true.mp ((Array.all_eq_true_iff_forall_mem.mp hF) _ (Array.getElem_mem ha)) i (List.mem_range.mpr hi)
    simpa [Array.getElem?_eq_getElem hi] using q
  obtain ⟨i0, ei0⟩ := is_v ga0
  obtain rfl : w0 = (.int i0) := Option.some.inj ei0
  obtain ⟨i1, ei1⟩ := is_v ga1
  obtain rfl : w1 = (.int i1) := Option.some.inj ei1
  obtain ⟨i2, ei2⟩ := is_v ga2
  obtain rfl : w2 = (.int i2) := Option.some.inj ei2
  obtain ⟨i3, ei3⟩ := is_v ga3
  obtain rfl : w3 = (.int i3) := Option.some.inj ei3
  obtain ⟨i4, ei4⟩ := is_v ga4
  obtain rfl : w4 = (.int i4) := Option.some.inj ei4
  obtain ⟨i5, ei5⟩ := is_v gg5
  obtain rfl : w5 = (.int i5) := Option.some.inj ei5
  obtain ⟨n, o, h1, h2, h3, _, L, rfl, ⟨rfl, N⟩, hq⟩ := rm0 l s _ hw tables_1 i0 i1 i2 i3 i4 i5 s.heap s.heap.size (Nat.le_refl _) p e ha hc hk s m _ below hf ((Spec.applies_iff_loose hf).mp happ).1 ⟨rfl, State.Warmed39.refl s, rfl⟩ trivial
  refine ⟨n, _, h1, h2, h3, hpost _ _ _ _ _ _ ⟨Cond.after_iff.mpr rfl, Cond.after_iff.mpr (eq_i res_at (Term.int_eval (1)) rfl), trivial⟩ ⟨hq.1, hq.2.1, (hq.2.2.sift fun y hy => Or.inr (N y hy)).mono (by decide) (by decide)⟩⟩
theorem main_1_1 : Claimed_1_1 := comes_1 fun _ _ _ _ _ _ h hF => ⟨h.1, hF⟩
theorem main_1_2 : Claimed_1_2 := comes_1 fun _ _ _ _ _ _ h hF => ⟨h.2.1, hF⟩
end Jvm.Pilot.@@N@@
namespace Jvm.Pilot.@@N@@
open Jvm Jvm.ClassFile Sem Op Lib Jvm.Free Jvm.Stand Jvm.Pilot.@@N@@.Jvm.D
/-! MADE BY PROGRAM (witnessworld.py) out of the Statement's table words and the real class files: 9 classes; the members and pool entries that the words name. The judged class is class 1, her method 2. -/
namespace start1
open Jvm.ClassFile
def u (s : String) : CpInfo := .utf8 (stringToUtf16 s)
/-- a pool by its gaps: so many unusable entries, then the entry; so many at the end -/
def gap : Nat → List CpInfo → List CpInfo
  | 0, r => r
  | n + 1, r => .unusable :: gap n r
def poolList (es : List (Nat × CpInfo)) (last : Nat) : List CpInfo := es.foldr (fun e r => gap e.1 (e.2 :: r)) (gap last [])
def pool (es : List (Nat × CpInfo)) (last : Nat) : Array CpInfo := ⟨poolList es last⟩
def fileOf (pool : Array CpInfo) (this : Nat) (attrs : Array Attribute := #[]) (ms : Array MethodInfo := #[]) (fl : Nat := 33) (sup : Nat := 0) (ifs : Array Nat := #[]) (fds : Array FieldInfo := #[]) : ClassFile where
  minorVersion := 0
  majorVersion := 65
  constantPool := pool
  accessFlags := fl
  thisClass := this
  superClass := sup
  interfaces := ifs
  fields := fds
  methods := ms
  attributes := attrs
def plain (name : String) (sup : Option ClassId) : Class where
  name := name
  kind := .ordinary
  loader := none
  accessFlags := 33
  super := sup
  interfaces := #[]
  cf := none
  fields := #[]
  methods := #[]
  instanceTypes := #[]
  staticTypes := #[]
  resolved := #[]
  callSites := []
  init := .initialized
  statics := none
  mirror := none

def pool0 : Array CpInfo := pool [(5, u "<init>"), (0, u "()V"), (1, .class_ 10), (1, u "java/lang/Object")] 113

def k0m0 : Method := { name := "<init>", desc := "()V", sig := { parameters := [], returnType := none }, accessFlags := 1, code := none }
/-- java/lang/Object -/
def k0 : Class := { plain "java/lang/Object" none with
  accessFlags := 33
  interfaces := #[]
  cf := some (fileOf pool0 8 #[] #[{ accessFlags := 1, nameIndex := 5, descriptorIndex := 6, attributes := #[] }] 33 0 #[] #[])
  fields := #[]
  methods := #[k0m0]
  instanceTypes := #[]
  staticTypes := #[]
  resolved := Array.replicate 124 none
  statics := none }

def pool1 : Array CpInfo := pool [(2, .class_ 4), (1, u "java/lang/Object"), (0, u "<init>"), (0, u "()V"), (0, .integer 2147483647), (0, .methodref 9 10), (0, .class_ 11), (0, .nameAndType 12 13), (0, u "com/example/cladestream/cladestream/Particles"), (0, u "best"), (0, u "([D)I"), (0, .methodref 15 16), (0, .class_ 17), (0, .nameAndType 18 19), (0, u "com/example/cladestream/cladestream/ParticlesBestPinLaw"), (0, u "ok"), (0, u "([DIII)Z"), (3, u "law"), (0, u "(IIIIII)Z")] 4

def k1m0 : Method := { name := "<init>", desc := "()V", sig := { parameters := [], returnType := none }, accessFlags := 2, code := none }
def k1c1 : Code := { maxStack := 4, maxLocals := 4, code := method_2_code, exceptionTable := #[], attributes := #[] }
def k1m1 : Method := { name := "ok", desc := "([DIII)Z", sig := { parameters := [(.array .double), .int, .int, .int], returnType := some .boolean }, accessFlags := 10, code := some k1c1 }
def k1c2 : Code := { maxStack := 4, maxLocals := 9, code := code, exceptionTable := #[], attributes := #[] }
def k1m2 : Method := { name := "law", desc := "(IIIIII)Z", sig := { parameters := [.int, .int, .int, .int, .int, .int], returnType := some .boolean }, accessFlags := 9, code := some k1c2 }
/-- com/example/cladestream/cladestream/ParticlesBestPinLaw -/
def k1 : Class := { plain "com/example/cladestream/cladestream/ParticlesBestPinLaw" (some 0) with
  accessFlags := 49
  interfaces := #[]
  cf := some (fileOf pool1 15 #[] #[{ accessFlags := 2, nameIndex := 5, descriptorIndex := 6, attributes := #[] }, { accessFlags := 10, nameIndex := 18, descriptorIndex := 19, attributes := #[] }, { accessFlags := 9, nameIndex := 23, descriptorIndex := 24, attributes := #[] }] 49 2 #[] #[])
  fields := #[]
  methods := #[k1m0, k1m1, k1m2]
  instanceTypes := #[]
  staticTypes := #[]
  resolved := Array.replicate 29 none
  statics := none }

def pool2 : Array CpInfo := pool [(2, .class_ 4), (1, u "java/lang/Object"), (0, u "<init>"), (0, u "()V"), (1, .class_ 10), (1, u "com/example/cladestream/cladestream/Particles"), (109, u "best"), (0, u "([D)I")] 35

def k2m0 : Method := { name := "<init>", desc := "()V", sig := { parameters := [], returnType := none }, accessFlags := 2, code := none }
def k2c1 : Code := { maxStack := 4, maxLocals := 3, code := prog_13_method_12_code, exceptionTable := #[], attributes := #[] }
def k2m1 : Method := { name := "best", desc := "([D)I", sig := { parameters := [(.array .double)], returnType := some .int }, accessFlags := 8, code := some k2c1 }
/-- com/example/cladestream/cladestream/Particles -/
def k2 : Class := { plain "com/example/cladestream/cladestream/Particles" (some 0) with
  accessFlags := 48
  interfaces := #[]
  cf := some (fileOf pool2 8 #[] #[{ accessFlags := 2, nameIndex := 5, descriptorIndex := 6, attributes := #[] }, { accessFlags := 8, nameIndex := 120, descriptorIndex := 121, attributes := #[] }] 48 2 #[] #[])
  fields := #[]
  methods := #[k2m0, k2m1]
  instanceTypes := #[]
  staticTypes := #[]
  resolved := Array.replicate 157 none
  statics := none }

def pool3 : Array CpInfo := pool [(1, u "java/lang/Cloneable"), (0, .class_ 1), (0, u "java/lang/Object"), (0, .class_ 3)] 3

/-- java/lang/Cloneable -/
def k3 : Class := { plain "java/lang/Cloneable" (some 0) with
  accessFlags := 1537
  interfaces := #[]
  cf := some (fileOf pool3 2 #[] #[] 1537 4 #[] #[])
  fields := #[]
  methods := #[]
  instanceTypes := #[]
  staticTypes := #[]
  resolved := Array.replicate 8 none
  statics := none }

def pool4 : Array CpInfo := pool [(1, u "java/io/Serializable"), (0, .class_ 1), (0, u "java/lang/Object"), (0, .class_ 3)] 3

/-- java/io/Serializable -/
def k4 : Class := { plain "java/io/Serializable" (some 0) with
  accessFlags := 1537
  interfaces := #[]
  cf := some (fileOf pool4 2 #[] #[] 1537 4 #[] #[])
  fields := #[]
  methods := #[]
  instanceTypes := #[]
  staticTypes := #[]
  resolved := Array.replicate 8 none
  statics := none }

/-- the primitive byte -/
def k5 : Class := { plain "byte" none with kind := .primitive 'B', accessFlags := 0x411 }
/-- [B -/
def k6 : Class := { plain "[B" (some 0) with kind := .array 5 .byte, interfaces := #[3, 4], accessFlags := 1041 }

/-- the primitive int -/
def k7 : Class := { plain "int" none with kind := .primitive 'I', accessFlags := 0x411 }
/-- [I -/
def k8 : Class := { plain "[I" (some 0) with kind := .array 7 .int, interfaces := #[3, 4], accessFlags := 1041 }

/-- the primitive double -/
def k9 : Class := { plain "double" none with kind := .primitive 'D', accessFlags := 0x411 }
/-- [D -/
def k10 : Class := { plain "[D" (some 0) with kind := .array 9 .double, interfaces := #[3, 4], accessFlags := 1041 }
def heap : Heap := #[]
def classes : Array Class := #[k0, k1, k2, k3, k4, k5, k6, k7, k8, k9, k10]
def interned : List (Array UInt16 × Addr) := []
def slotsUsed : Nat := 0
def theMethod : MethodId := ⟨1, 2⟩
def args0 : Array Value := #[.int 7, .int 1, .int 2, .int 3, .int 4, .int 5]
def aboutOver (below : List Frame) : State where
  vm := { classes := classes, interned := interned.toArray }
  heap := heap
  slotsUsed := slotsUsed
  threads := #[{ frames := .invoking theMethod args0 :: below }]
def below0 : List Frame := [.native { method := ⟨0, 0⟩, args := #[] }]
def about1 : State := aboutOver below0
def p0 : Program := .bare "" "" ""
def e0 : Env := launch0.env 0 0 0
theorem w_frames : about1.frames = Frame.invoking theMethod args0 :: below0 := rfl
set_option maxRecDepth 65536 in
theorem w_args : argsFit about1.vm theMethod args0 = true := by decide +kernel
set_option maxRecDepth 65536 in
theorem w_heap : heapFits about1 = true := by decide +kernel
set_option maxRecDepth 65536 in
theorem w_runnable : about1.curStatus? = some .runnable := by decide +kernel
set_option maxRecDepth 65536 in
theorem w_alone : about1.alone = true := by decide +kernel
set_option maxRecDepth 65536 in
theorem w_named : about1.methodNamed? x = some theMethod := by decide +kernel
set_option maxRecDepth 65536 in
theorem w_hears : about1.hears theMethod below0 = true := by decide +kernel
set_option maxRecDepth 65536 in
theorem w_ripe : about1.ripe theMethod args0 below0 = true := by decide +kernel
theorem w_running : about1.status = .running := rfl
set_option maxRecDepth 65536 in
theorem w_room : about1.hasRoom e0.platform room_1 = true :=
  launch0.hasRoom_least _ room_1 (by decide +kernel) (by decide +kernel) (by decide +kernel) (by decide +kernel) (by decide +kernel) (by decide +kernel)
theorem allAtoms_all (ts : List Jvm.Cond) (a : Array Jvm.Value) (st : Jvm.State) : (allAtoms ts).before a st = ts.all (fun c => c.before a st) := by
  induction ts with
  | nil => rfl
  | cons c t ih =>
    show (Jvm.Cond.and c (allAtoms t)).before a st = _
    rw [Jvm.Cond.before_and, ih, List.all_cons]
def words1 : List Jvm.Cond := Jvm.Cond.code x code maxLocals ret :: tables_1
/-- a 'code' word, met by the world's own term for the bytes: nothing is compared byte by byte -/
theorem code_word {y : MethodName} {bytes : ByteArray} {mx : Nat} {rt : Option FieldType} {a : Array Value} {s : State} {m : MethodId} {meth : Method} {c : Code} (h1 : s.methodNamed? y = some m) (h2 : s.vm.method? m = some meth) (h3 : meth.code = some c) (h4 : c.code = bytes)
    (h5 : (c.maxLocals == mx && c.exceptionTable.isEmpty && decide (c.maxStack ≤ mostOperands) && decide (meth.sig.returnType = rt) && !meth.locks && decide (parseMethodDescriptor y.desc = some meth.sig)) = true) : (Jvm.Cond.code y bytes mx rt).before a s = true := by
  simp only [Bool.and_eq_true, beq_iff_eq, Bool.not_eq_true', decide_eq_true_eq] at h5
  obtain ⟨⟨⟨⟨⟨g1, g2⟩, g3⟩, g4⟩, g5⟩, g6⟩ := h5
  simp [Cond.before, Cond.holds, Cond.value, h1, h2, h3, h4, g1, g2, g3, g4, g5, g6]
def isCode : Jvm.Cond → Bool
  | .code _ _ _ _ => true
  | _ => false
theorem all_split {L : List Jvm.Cond} {P : Jvm.Cond → Bool} (h1 : L.all (fun c => isCode c || P c) = true) (h2 : ∀ c ∈ L.filter isCode, P c = true) : L.all P = true := by
  refine List.all_eq_true.mpr fun c hc => ?_
  have h := List.all_eq_true.mp h1 c hc
  rcases Bool.eq_false_or_eq_true (isCode c) with hi | hi
  · exact h2 c (List.mem_filter.mpr ⟨hc, hi⟩)
  · simpa [hi] using h
set_option maxRecDepth 65536 in
theorem w_c0 : (Jvm.Cond.code x code maxLocals ret).before args0 about1 = true := code_word (m := ⟨1, 2⟩) (meth := k1m2) (c := k1c2) (by decide +kernel) rfl rfl rfl (by decide +kernel)
set_option maxRecDepth 65536 in
theorem w_c1 : (Jvm.Cond.code ({ cls := "com/example/cladestream/cladestream/Particles", name := "best", desc := "([D)I" } : Jvm.MethodName) prog_13_method_12_code (3 : Nat) (Option.some Jvm.ClassFile.FieldType.int)).before args0 about1 = true := code_word (m := ⟨2, 1⟩) (meth := k2m1) (c := k2c1) (by decide +kernel) rfl rfl rfl (by decide +kernel)
set_option maxRecDepth 65536 in
theorem w_c2 : (Jvm.Cond.code ({ cls := "com/example/cladestream/cladestream/ParticlesBestPinLaw", name := "ok", desc := "([DIII)Z" } : Jvm.MethodName) method_2_code (4 : Nat) (Option.some Jvm.ClassFile.FieldType.boolean)).before args0 about1 = true := code_word (m := ⟨1, 1⟩) (meth := k1m1) (c := k1c1) (by decide +kernel) rfl rfl rfl (by decide +kernel)
def codes1 : List Jvm.Cond := [Jvm.Cond.code x code maxLocals ret, Jvm.Cond.code ({ cls := "com/example/cladestream/cladestream/Particles", name := "best", desc := "([D)I" } : Jvm.MethodName) prog_13_method_12_code (3 : Nat) (Option.some Jvm.ClassFile.FieldType.int), Jvm.Cond.code ({ cls := "com/example/cladestream/cladestream/ParticlesBestPinLaw", name := "ok", desc := "([DIII)Z" } : Jvm.MethodName) method_2_code (4 : Nat) (Option.some Jvm.ClassFile.FieldType.boolean)]
set_option maxRecDepth 65536 in
theorem codes_eq : words1.filter isCode = codes1 := rfl
theorem w_codes : ∀ c ∈ words1.filter isCode, c.before args0 about1 = true := by
  rw [codes_eq]
  intro c hc
  simp only [codes1, List.mem_cons, List.not_mem_nil, or_false] at hc
  rcases hc with rfl | rfl | rfl
  · exact w_c0
  · exact w_c1
  · exact w_c2
set_option maxRecDepth 65536 in
theorem w_t1 : words1.all (fun c => isCode c || c.before args0 about1) = true := by decide +kernel
theorem w_tables : (allAtoms (Jvm.Cond.code x code maxLocals ret :: tables_1)).before args0 about1 = true := by
  rw [allAtoms_all]
  show words1.all (fun c => c.before args0 about1) = true
  refine all_split ?_ w_codes
  rw [w_t1]
set_option maxRecDepth 65536 in
theorem w_case : (Jvm.Cond.and given_1 narrow_1).before args0 about1 = true := by decide +kernel
theorem w_applies : (headSpec (Jvm.Cond.code x code maxLocals ret :: tables_1) room_1).applies x e0.platform about1 = true :=
  (Spec.applies_iff w_frames).mpr ⟨w_running, w_runnable, w_alone, w_named, w_hears, w_ripe, w_room, w_tables⟩
theorem atStart : AtStart classFile x code maxLocals ret World_1 tables_1 room_1 Calls_1 rest_1 Pre_1 launch0 p0 e0 about1 theMethod args0 below0 :=
  ⟨lists_1, trivial, launch0.admits_env _ _ _, launch0.least_env, fairChoices_fair.cas, fairChoices_fair.clock, w_frames, w_args, w_heap, w_applies, trivial, trivial, w_case⟩
end start1
theorem witness_1 : WitnessClaimed_1 := ⟨start1.p0, start1.e0, start1.about1, start1.theMethod, start1.args0, start1.below0, start1.atStart⟩
end Jvm.Pilot.@@N@@
