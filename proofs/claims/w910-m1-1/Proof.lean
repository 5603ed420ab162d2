import JvmDerived
import JvmDerived.Pilot.@@N@@Statement
import JvmDerived.Pilot.@@N@@Code
set_option linter.unusedVariables false
set_option linter.unusedSimpArgs false
@@BLOCK:NumsL.lean.txt@@
namespace Jvm.Pilot.@@N@@
open Jvm Jvm.ClassFile Sem Op Lib Jvm.Free Jvm.Stand Jvm.LawKit Jvm.RoadKit Bundle Jvm.Pilot.@@N@@.Jvm.D
/-- from the state A the run comes to a return of which Q holds -/
def Go (tb : Tables) (e : Env) (below : List Frame) (s : State) (C S : Nat) (Q : Option Value → Heap → List Loc → Prop) (A : State) : Prop :=
  ∃ s₂ o, Steps tb e below A s₂ ∧ s₂.status = .running ∧ Ended s₂ below o ∧ ∃ v L, o = .returned v ∧ Q v s₂.heap L ∧ FrameEnd s o s₂ L C S
theorem go {tb : Tables} {e : Env} {below : List Frame} {s A B : State} {C S : Nat} {Q : Option Value → Heap → List Loc → Prop} (st : ∀ t, Steps tb e below B t → Steps tb e below A t) (h : Go tb e below s C S Q B) : Go tb e below s C S Q A := by
  obtain ⟨s₂, o, h1, h2⟩ := h
  exact ⟨s₂, o, st _ h1, h2⟩
section Rets
variable {p : Program} {l : Launch} {e : Env} {R : Room} {s : State} {m : MethodId} {args : Array Value} {below : List Frame} {meth : Method} {c : Code} {T : State} {locs : List Loc} {cells slots : Nat} {C S : Nat} {Q : Option Value → Heap → List Loc → Prop} {pc : Nat} {Ls : Array Slot} {rest : List Value}
theorem goRetI (X : Stand p l e R s m args below meth c T locs cells slots) (hx : p.tables.exec = Jvm.exec) {z : Int32} (hret : meth.sig.returnType = some .int) (hlk : meth.locks = false) (hd : decode c.code pc = .ok (.ireturn, 1)) (hQ : Q (some (.int z)) T.heap locs) (hc : cells ≤ C) (hs : slots ≤ S) : Go p.tables e below s C S Q (T.setTop (mkF m pc Ls (.int z :: rest))) := by
  obtain ⟨fs, hr, hrun, hended, hW, hsame⟩ := X.leave (v := some (.int z)) (fun h => by rw [hret] at h; cases h) hlk
  exact ⟨_, _, retOut X hx hret rfl (Or.inl ⟨rfl, Or.inl rfl, z, rfl⟩) hd hr, hrun, hended, _, _, rfl, hQ, ⟨_, rfl⟩, hW, hsame.mono hc hs⟩
theorem goRetN (X : Stand p l e R s m args below meth c T locs cells slots) (hx : p.tables.exec = Jvm.exec) {z : Int32} {t : FieldType} (hret : meth.sig.returnType = some t) (ht : t = .boolean ∨ t = .byte ∨ t = .char ∨ t = .short) (hlk : meth.locks = false) (hd : decode c.code pc = .ok (.ireturn, 1)) (hQ : Q (some (.int (nar t z))) T.heap locs) (hc : cells ≤ C) (hs : slots ≤ S) : Go p.tables e below s C S Q (T.setTop (mkF m pc Ls (.int z :: rest))) := by
  obtain ⟨fs, hr, hrun, hended, hW, hsame⟩ := X.leave (v := some (.int (nar t z))) (fun h => by rw [hret] at h; cases h) hlk
  exact ⟨_, _, retN X hx hret ht hd hr, hrun, hended, _, _, rfl, hQ, ⟨_, rfl⟩, hW, hsame.mono hc hs⟩
theorem goRetL (X : Stand p l e R s m args below meth c T locs cells slots) (hx : p.tables.exec = Jvm.exec) {z : Int64} (hret : meth.sig.returnType = some .long) (hlk : meth.locks = false) (hd : decode c.code pc = .ok (.lreturn, 1)) (hQ : Q (some (.long z)) T.heap locs) (hc : cells ≤ C) (hs : slots ≤ S) : Go p.tables e below s C S Q (T.setTop (mkF m pc Ls (.long z :: rest))) := by
  obtain ⟨fs, hr, hrun, hended, hW, hsame⟩ := X.leave (v := some (.long z)) (fun h => by rw [hret] at h; cases h) hlk
  exact ⟨_, _, retOut X hx hret rfl (Or.inr (Or.inl ⟨rfl, rfl, z, rfl⟩)) hd hr, hrun, hended, _, _, rfl, hQ, ⟨_, rfl⟩, hW, hsame.mono hc hs⟩
theorem goRetR (X : Stand p l e R s m args below meth c T locs cells slots) (hx : p.tables.exec = Jvm.exec) {a : Addr} {t : FieldType} (hret : meth.sig.returnType = some t) (ht : t.isReference = true) (hlk : meth.locks = false) (hd : decode c.code pc = .ok (.areturn, 1)) (hQ : Q (some (.ref a)) T.heap locs) (hc : cells ≤ C) (hs : slots ≤ S) : Go p.tables e below s C S Q (T.setTop (mkF m pc Ls (.ref a :: rest))) := by
  obtain ⟨fs, hr, hrun, hended, hW, hsame⟩ := X.leave (v := some (.ref a)) (fun h => by rw [hret] at h; cases h) hlk
  exact ⟨_, _, retOut X hx hret (by cases t <;> first | rfl | cases ht) (Or.inr (Or.inr (Or.inr (Or.inr ⟨rfl, ht, rfl⟩)))) hd hr, hrun, hended, _, _, rfl, hQ, ⟨_, rfl⟩, hW, hsame.mono hc hs⟩
theorem goRetV (X : Stand p l e R s m args below meth c T locs cells slots) (hx : p.tables.exec = Jvm.exec) (hret : meth.sig.returnType = none) (hlk : meth.locks = false) (hd : decode c.code pc = .ok (.return_, 1)) (hQ : Q none T.heap locs) (hc : cells ≤ C) (hs : slots ≤ S) : Go p.tables e below s C S Q (T.setTop (mkF m pc Ls [])) := by
  obtain ⟨fs, hr, hrun, hended, hW, hsame⟩ := X.leave (v := none) (fun _ => rfl) hlk
  exact ⟨_, _, X.returnOut hx hret hd hr, hrun, hended, _, _, rfl, hQ, ⟨_, rfl⟩, hW, hsame.mono hc hs⟩
end Rets
theorem lc_lt_yes {x y : Int64} (h : x < y) : ifCond.holds .lt (lcmpW x y) = true := by
  have h1 : ¬ y < x := by rw [Int64.lt_iff_toInt_lt] at h ⊢; omega
  have h2 : ¬ x = y := fun q => by subst q; rw [Int64.lt_iff_toInt_lt] at h; omega
  simp [lcmpW, h1, h2]; decide
theorem lc_lt_no {x y : Int64} (h : ¬ x < y) : ifCond.holds .lt (lcmpW x y) = false := by
  by_cases h1 : y < x
  · simp [lcmpW, h1]; decide
  · have h2 : x = y := by rw [← Int64.toInt_inj]; rw [Int64.lt_iff_toInt_lt] at h h1; omega
    simp [lcmpW, h1, h2]; decide
theorem lc_ge_no {x y : Int64} (h : x < y) : ifCond.holds .ge (lcmpW x y) = false := by
  have h1 : ¬ y < x := by rw [Int64.lt_iff_toInt_lt] at h ⊢; omega
  have h2 : ¬ x = y := fun q => by subst q; rw [Int64.lt_iff_toInt_lt] at h; omega
  simp [lcmpW, h1, h2]; decide
theorem lc_ge_yes {x y : Int64} (h : ¬ x < y) : ifCond.holds .ge (lcmpW x y) = true := by
  by_cases h1 : y < x
  · simp [lcmpW, h1]; decide
  · have h2 : x = y := by rw [← Int64.toInt_inj]; rw [Int64.lt_iff_toInt_lt] at h h1; omega
    simp [lcmpW, h1, h2]; decide
theorem lc_gt_yes {x y : Int64} (h : y < x) : ifCond.holds .gt (lcmpW x y) = true := by
  simp [lcmpW, h]; decide
theorem lc_gt_no {x y : Int64} (h : ¬ y < x) : ifCond.holds .gt (lcmpW x y) = false := by
  by_cases h2 : x = y <;> simp [lcmpW, h, h2] <;> decide
theorem lc_le_no {x y : Int64} (h : y < x) : ifCond.holds .le (lcmpW x y) = false := by
  simp [lcmpW, h]; decide
theorem lc_le_yes {x y : Int64} (h : ¬ y < x) : ifCond.holds .le (lcmpW x y) = true := by
  by_cases h2 : x = y <;> simp [lcmpW, h, h2] <;> decide
theorem lc_eq_yes {x y : Int64} (h : x = y) : ifCond.holds .eq (lcmpW x y) = true := by
  subst h; simp [lcmpW]; decide
theorem lc_eq_no {x y : Int64} (h : ¬ x = y) : ifCond.holds .eq (lcmpW x y) = false := by
  by_cases h1 : y < x <;> simp [lcmpW, h, h1] <;> decide
theorem lc_ne_no {x y : Int64} (h : x = y) : ifCond.holds .ne (lcmpW x y) = false := by
  subst h; simp [lcmpW]; decide
theorem lc_ne_yes {x y : Int64} (h : ¬ x = y) : ifCond.holds .ne (lcmpW x y) = true := by
  by_cases h1 : y < x <;> simp [lcmpW, h, h1] <;> decide
def tbl : List Int32 := [1, 14, 2, 13, -1, -1, 4, 11, -1, -1, 12, -1, 3, 15, -1, -1, -1, 5, 6, 8, -1, 7, 9, -1, 10, -1]
def ssL : List Int32 := [15, -1, -1, -1, -1, -1, -1, -1, -1, -1, -1, -1, -1, -1, -1, -1, -1, -1, 15, -1, 1, 14, 2, 13, -1, -1, 4, 11, -1, -1, 12, -1, 3, 15, -1, -1, -1, 5, 6, 8, -1, 7, 9, -1, 10]
def ss (u : Int32) : Int32 := if u.toInt < 45 then -1 else ssL.getD (u.toInt - 45).toNat (-1)
def nrm (c : Int32) : Int32 := if 97 ≤ c.toInt ∧ c.toInt ≤ 122 then (((c - (97 : Int32)) + (65 : Int32)).toUInt32.toUInt16.toUInt32.toInt32) else c
def fSS (c : Int32) : Int32 := ss (nrm c)
theorem ch_int (u : UInt16) : (u.toUInt32.toInt32).toInt = (u.toNat : Int) := by
  have hu := u.toNat_lt
  show (u.toUInt32.toBitVec).toInt = _
  rw [BitVec.toInt_eq_toNat_of_lt] <;> simp <;> omega
theorem ch_small {x : Int32} (h0 : 0 ≤ x.toInt) (h1 : x.toInt < 65536) : (x.toUInt32.toUInt16.toUInt32.toInt32).toInt = x.toInt := by
  rw [ch_int]
  have e1 : x.toInt = (x.toUInt32.toNat : Int) := by
    show x.toBitVec.toInt = (x.toBitVec.toNat : Int)
    have h0' : 0 ≤ x.toBitVec.toInt := h0
    rw [BitVec.toInt_eq_toNat_cond] at h0' ⊢
    split at h0' <;> rename_i hh
    · rw [if_pos hh]
    · have := x.toBitVec.isLt; omega
  have e2 : x.toUInt32.toUInt16.toNat = x.toUInt32.toNat % 65536 := by simp
  rw [e2]; omega
theorem ss_at {u : Int32} {k : Nat} {z : Int32} (h : ¬ u.toInt < 45) (hk : (u.toInt - 45).toNat = k) (hz : ssL.getD k (-1) = z) : ss u = z := by
  unfold ss
  rw [if_neg h, hk, hz]
theorem ss_out {u : Int32} (h : u.toInt < 45 ∨ u.toInt > 89) : ss u = -1 := by
  unfold ss
  by_cases q : u.toInt < 45
  · rw [if_pos q]
  · rw [if_neg q, List.getD_eq_getElem?_getD, List.getElem?_eq_none (by show 45 ≤ _; omega)]; rfl
theorem up_key : ∀ n : Fin 26, ssL.getD (n.val + 20) (-1) = tbl.getD n.val 0 := by decide +kernel
theorem no_key : ∀ k : Fin 20, k.val ≠ 0 → k.val ≠ 18 → ssL.getD k.val (-1) = -1 := by decide +kernel
theorem idx {c a : Int32} (h1 : a.toInt ≤ c.toInt) (h0 : 0 ≤ a.toInt) : (c - a).toInt = c.toInt - a.toInt := by
  have b1 := c.toInt_lt
  have b2 := c.le_toInt
  rw [Jvm.Kit.i32_sub] <;> omega
theorem ss_tab {u : Int32} (h1 : 65 ≤ u.toInt) (h2 : u.toInt ≤ 90) : ss u = tbl.getD (u.toInt - 65).toNat 0 := by
  rw [ss_at (k := (u.toInt - 65).toNat + 20) (by omega) (by omega) rfl]
  exact up_key ⟨(u.toInt - 65).toNat, by omega⟩
theorem up_ok {c : Int32} (h1 : 65 ≤ c.toInt) (h2 : c.toInt ≤ 90) : fSS c = tbl.getD (c - (65 : Int32)).toNatClampNeg 0 := by
  have c65 : (65 : Int32).toInt = 65 := by decide
  have e : (c - (65 : Int32)).toInt = c.toInt - 65 := by rw [idx] <;> rw [c65] <;> omega
  unfold fSS nrm
  rw [if_neg (by omega), ss_tab h1 h2]
  show _ = tbl.getD (c - (65 : Int32)).toInt.toNat 0
  rw [e]
theorem lo_ok {c : Int32} (h1 : 97 ≤ c.toInt) (h2 : c.toInt ≤ 122) : fSS c = tbl.getD (c - (97 : Int32)).toNatClampNeg 0 := by
  have c97 : (97 : Int32).toInt = 97 := by decide
  have c65 : (65 : Int32).toInt = 65 := by decide
  have e : (c - (97 : Int32)).toInt = c.toInt - 97 := by rw [idx] <;> rw [c97] <;> omega
  have e2 : ((c - (97 : Int32)) + (65 : Int32)).toInt = c.toInt - 32 := by rw [Jvm.Kit.i32_add] <;> rw [e, c65] <;> omega
  have e3 := ch_small (x := (c - (97 : Int32)) + (65 : Int32)) (by omega) (by omega)
  unfold fSS nrm
  rw [if_pos ⟨h1, h2⟩, ss_tab (by omega) (by omega), e3, e2]
  show _ = tbl.getD (c - (97 : Int32)).toInt.toNat 0
  rw [e]
  congr 1
  omega
theorem dash_ok : fSS (45 : Int32) = 15 ∧ fSS (63 : Int32) = 15 := by decide +kernel
theorem none_ok {c : Int32} (h1 : ¬ (65 ≤ c.toInt ∧ c.toInt ≤ 90)) (h2 : ¬ (97 ≤ c.toInt ∧ c.toInt ≤ 122)) (h3 : c.toInt ≠ 45) (h4 : c.toInt ≠ 63) : fSS c = -1 := by
  unfold fSS nrm
  rw [if_neg h2]
  by_cases q : c.toInt < 45 ∨ c.toInt > 89
  · exact ss_out q
  · exact ss_at (k := (c.toInt - 45).toNat) (by omega) rfl (no_key ⟨(c.toInt - 45).toNat, by omega⟩ (by show (c.toInt - 45).toNat ≠ 0; omega) (by show (c.toInt - 45).toNat ≠ 18; omega))
theorem tab_at {c : Cell} (H : Has c (tbl.map Value.int) (.int 0)) {j : Nat} (hj : j < c.slots.size) : c.slots[j]? = some (.int (tbl.getD j 0)) := by
  rw [H j hj]
  simp only [List.getD_eq_getElem?_getD, List.getElem?_map]
  cases tbl[j]? <;> rfl
theorem pn_com_example_cladestream_cladestream_AlignmentStateSetPinLaw : plainName "com/example/cladestream/cladestream/AlignmentStateSetPinLaw" = true := by first | (simp [plainName, overriddenIn]; done) | decide +kernel
theorem ef_rm1 (m : MethodId)  : entryFrame m #[] 1 = mkF m 0 #[.unset] [] := by first | (simp [entryFrame, mkF, argsToLocals, Value.category]; done) | rfl
def Q1 (Z : State)  (h0 : Heap) (n0 : Nat) (v : Option Value) (h : Heap) (L : List Loc) : Prop := ∃ b k, v = some (.ref b) ∧ Fr n0 L ∧ n0 ≤ h.size ∧ Arv Z h b k .int (26 : Int32) (tbl.map Value.int) (.int 0)
theorem d1_0 : decode method_2_code 0 = .ok (.bipush 26, 2) := by decide +kernel
theorem d1_2 : decode method_2_code 2 = .ok (.newarray .int, 2) := by decide +kernel
theorem d1_4 : decode method_2_code 4 = .ok (.astore_n 0, 1) := by decide +kernel
theorem d1_5 : decode method_2_code 5 = .ok (.aload_n 0, 1) := by decide +kernel
theorem d1_6 : decode method_2_code 6 = .ok (.iconst 0, 1) := by decide +kernel
theorem d1_7 : decode method_2_code 7 = .ok (.iconst 1, 1) := by decide +kernel
theorem d1_8 : decode method_2_code 8 = .ok (.iastore, 1) := by decide +kernel
theorem d1_9 : decode method_2_code 9 = .ok (.aload_n 0, 1) := by decide +kernel
theorem d1_10 : decode method_2_code 10 = .ok (.iconst 1, 1) := by decide +kernel
theorem d1_11 : decode method_2_code 11 = .ok (.bipush 14, 2) := by decide +kernel
theorem d1_13 : decode method_2_code 13 = .ok (.iastore, 1) := by decide +kernel
theorem d1_14 : decode method_2_code 14 = .ok (.aload_n 0, 1) := by decide +kernel
theorem d1_15 : decode method_2_code 15 = .ok (.iconst 2, 1) := by decide +kernel
theorem d1_16 : decode method_2_code 16 = .ok (.iconst 2, 1) := by decide +kernel
theorem d1_17 : decode method_2_code 17 = .ok (.iastore, 1) := by decide +kernel
theorem d1_18 : decode method_2_code 18 = .ok (.aload_n 0, 1) := by decide +kernel
theorem d1_19 : decode method_2_code 19 = .ok (.iconst 3, 1) := by decide +kernel
theorem d1_20 : decode method_2_code 20 = .ok (.bipush 13, 2) := by decide +kernel
theorem d1_22 : decode method_2_code 22 = .ok (.iastore, 1) := by decide +kernel
theorem d1_23 : decode method_2_code 23 = .ok (.aload_n 0, 1) := by decide +kernel
theorem d1_24 : decode method_2_code 24 = .ok (.iconst 4, 1) := by decide +kernel
theorem d1_25 : decode method_2_code 25 = .ok (.iconst (-1), 1) := by decide +kernel
theorem d1_26 : decode method_2_code 26 = .ok (.iastore, 1) := by decide +kernel
theorem d1_27 : decode method_2_code 27 = .ok (.aload_n 0, 1) := by decide +kernel
theorem d1_28 : decode method_2_code 28 = .ok (.iconst 5, 1) := by decide +kernel
theorem d1_29 : decode method_2_code 29 = .ok (.iconst (-1), 1) := by decide +kernel
theorem d1_30 : decode method_2_code 30 = .ok (.iastore, 1) := by decide +kernel
theorem d1_31 : decode method_2_code 31 = .ok (.aload_n 0, 1) := by decide +kernel
theorem d1_32 : decode method_2_code 32 = .ok (.bipush 6, 2) := by decide +kernel
theorem d1_34 : decode method_2_code 34 = .ok (.iconst 4, 1) := by decide +kernel
theorem d1_35 : decode method_2_code 35 = .ok (.iastore, 1) := by decide +kernel
theorem d1_36 : decode method_2_code 36 = .ok (.aload_n 0, 1) := by decide +kernel
theorem d1_37 : decode method_2_code 37 = .ok (.bipush 7, 2) := by decide +kernel
theorem d1_39 : decode method_2_code 39 = .ok (.bipush 11, 2) := by decide +kernel
theorem d1_41 : decode method_2_code 41 = .ok (.iastore, 1) := by decide +kernel
theorem d1_42 : decode method_2_code 42 = .ok (.aload_n 0, 1) := by decide +kernel
theorem d1_43 : decode method_2_code 43 = .ok (.bipush 8, 2) := by decide +kernel
theorem d1_45 : decode method_2_code 45 = .ok (.iconst (-1), 1) := by decide +kernel
theorem d1_46 : decode method_2_code 46 = .ok (.iastore, 1) := by decide +kernel
theorem d1_47 : decode method_2_code 47 = .ok (.aload_n 0, 1) := by decide +kernel
theorem d1_48 : decode method_2_code 48 = .ok (.bipush 9, 2) := by decide +kernel
theorem d1_50 : decode method_2_code 50 = .ok (.iconst (-1), 1) := by decide +kernel
theorem d1_51 : decode method_2_code 51 = .ok (.iastore, 1) := by decide +kernel
theorem d1_52 : decode method_2_code 52 = .ok (.aload_n 0, 1) := by decide +kernel
theorem d1_53 : decode method_2_code 53 = .ok (.bipush 10, 2) := by decide +kernel
theorem d1_55 : decode method_2_code 55 = .ok (.bipush 12, 2) := by decide +kernel
theorem d1_57 : decode method_2_code 57 = .ok (.iastore, 1) := by decide +kernel
theorem d1_58 : decode method_2_code 58 = .ok (.aload_n 0, 1) := by decide +kernel
theorem d1_59 : decode method_2_code 59 = .ok (.bipush 11, 2) := by decide +kernel
theorem d1_61 : decode method_2_code 61 = .ok (.iconst (-1), 1) := by decide +kernel
theorem d1_62 : decode method_2_code 62 = .ok (.iastore, 1) := by decide +kernel
theorem d1_63 : decode method_2_code 63 = .ok (.aload_n 0, 1) := by decide +kernel
theorem d1_64 : decode method_2_code 64 = .ok (.bipush 12, 2) := by decide +kernel
theorem d1_66 : decode method_2_code 66 = .ok (.iconst 3, 1) := by decide +kernel
theorem d1_67 : decode method_2_code 67 = .ok (.iastore, 1) := by decide +kernel
theorem d1_68 : decode method_2_code 68 = .ok (.aload_n 0, 1) := by decide +kernel
theorem d1_69 : decode method_2_code 69 = .ok (.bipush 13, 2) := by decide +kernel
theorem d1_71 : decode method_2_code 71 = .ok (.bipush 15, 2) := by decide +kernel
theorem d1_73 : decode method_2_code 73 = .ok (.iastore, 1) := by decide +kernel
theorem d1_74 : decode method_2_code 74 = .ok (.aload_n 0, 1) := by decide +kernel
theorem d1_75 : decode method_2_code 75 = .ok (.bipush 14, 2) := by decide +kernel
theorem d1_77 : decode method_2_code 77 = .ok (.iconst (-1), 1) := by decide +kernel
theorem d1_78 : decode method_2_code 78 = .ok (.iastore, 1) := by decide +kernel
theorem d1_79 : decode method_2_code 79 = .ok (.aload_n 0, 1) := by decide +kernel
theorem d1_80 : decode method_2_code 80 = .ok (.bipush 15, 2) := by decide +kernel
theorem d1_82 : decode method_2_code 82 = .ok (.iconst (-1), 1) := by decide +kernel
theorem d1_83 : decode method_2_code 83 = .ok (.iastore, 1) := by decide +kernel
theorem d1_84 : decode method_2_code 84 = .ok (.aload_n 0, 1) := by decide +kernel
theorem d1_85 : decode method_2_code 85 = .ok (.bipush 16, 2) := by decide +kernel
theorem d1_87 : decode method_2_code 87 = .ok (.iconst (-1), 1) := by decide +kernel
theorem d1_88 : decode method_2_code 88 = .ok (.iastore, 1) := by decide +kernel
theorem d1_89 : decode method_2_code 89 = .ok (.aload_n 0, 1) := by decide +kernel
theorem d1_90 : decode method_2_code 90 = .ok (.bipush 17, 2) := by decide +kernel
theorem d1_92 : decode method_2_code 92 = .ok (.iconst 5, 1) := by decide +kernel
theorem d1_93 : decode method_2_code 93 = .ok (.iastore, 1) := by decide +kernel
theorem d1_94 : decode method_2_code 94 = .ok (.aload_n 0, 1) := by decide +kernel
theorem d1_95 : decode method_2_code 95 = .ok (.bipush 18, 2) := by decide +kernel
theorem d1_97 : decode method_2_code 97 = .ok (.bipush 6, 2) := by decide +kernel
theorem d1_99 : decode method_2_code 99 = .ok (.iastore, 1) := by decide +kernel
theorem d1_100 : decode method_2_code 100 = .ok (.aload_n 0, 1) := by decide +kernel
theorem d1_101 : decode method_2_code 101 = .ok (.bipush 19, 2) := by decide +kernel
theorem d1_103 : decode method_2_code 103 = .ok (.bipush 8, 2) := by decide +kernel
theorem d1_105 : decode method_2_code 105 = .ok (.iastore, 1) := by decide +kernel
theorem d1_106 : decode method_2_code 106 = .ok (.aload_n 0, 1) := by decide +kernel
theorem d1_107 : decode method_2_code 107 = .ok (.bipush 20, 2) := by decide +kernel
theorem d1_109 : decode method_2_code 109 = .ok (.iconst (-1), 1) := by decide +kernel
theorem d1_110 : decode method_2_code 110 = .ok (.iastore, 1) := by decide +kernel
theorem d1_111 : decode method_2_code 111 = .ok (.aload_n 0, 1) := by decide +kernel
theorem d1_112 : decode method_2_code 112 = .ok (.bipush 21, 2) := by decide +kernel
theorem d1_114 : decode method_2_code 114 = .ok (.bipush 7, 2) := by decide +kernel
theorem d1_116 : decode method_2_code 116 = .ok (.iastore, 1) := by decide +kernel
theorem d1_117 : decode method_2_code 117 = .ok (.aload_n 0, 1) := by decide +kernel
theorem d1_118 : decode method_2_code 118 = .ok (.bipush 22, 2) := by decide +kernel
theorem d1_120 : decode method_2_code 120 = .ok (.bipush 9, 2) := by decide +kernel
theorem d1_122 : decode method_2_code 122 = .ok (.iastore, 1) := by decide +kernel
theorem d1_123 : decode method_2_code 123 = .ok (.aload_n 0, 1) := by decide +kernel
theorem d1_124 : decode method_2_code 124 = .ok (.bipush 23, 2) := by decide +kernel
theorem d1_126 : decode method_2_code 126 = .ok (.iconst (-1), 1) := by decide +kernel
theorem d1_127 : decode method_2_code 127 = .ok (.iastore, 1) := by decide +kernel
theorem d1_128 : decode method_2_code 128 = .ok (.aload_n 0, 1) := by decide +kernel
theorem d1_129 : decode method_2_code 129 = .ok (.bipush 24, 2) := by decide +kernel
theorem d1_131 : decode method_2_code 131 = .ok (.bipush 10, 2) := by decide +kernel
theorem d1_133 : decode method_2_code 133 = .ok (.iastore, 1) := by decide +kernel
theorem d1_134 : decode method_2_code 134 = .ok (.aload_n 0, 1) := by decide +kernel
theorem d1_135 : decode method_2_code 135 = .ok (.bipush 25, 2) := by decide +kernel
theorem d1_137 : decode method_2_code 137 = .ok (.iconst (-1), 1) := by decide +kernel
theorem d1_138 : decode method_2_code 138 = .ok (.iastore, 1) := by decide +kernel
theorem d1_139 : decode method_2_code 139 = .ok (.aload_n 0, 1) := by decide +kernel
theorem d1_140 : decode method_2_code 140 = .ok (.areturn, 1) := by decide +kernel
set_option maxRecDepth 65536 in
set_option maxHeartbeats 40000000 in
theorem rm1 (l : Launch) (Z : State) (a0 : Array Value) (hw : ∀ d ∈ tables_1, d.before a0 Z = true) (ws : List Jvm.Cond)  (h0 : Heap) (n0 : Nat) (Z0 : n0 ≤ h0.size) :
    MetFree l (⟨"com/example/cladestream/cladestream/AlignmentStateSetPinLaw", "letterTable", "()[I"⟩ : MethodName) (head1 (Jvm.Cond.code (⟨"com/example/cladestream/cladestream/AlignmentStateSetPinLaw", "letterTable", "()[I"⟩ : MethodName) method_2_code 1 (some (.array .int)) :: ws) ({ frames := 0, cells := 1, slots := 26, locals := 0 } : Room)) (fun a U => a = #[] ∧ Z.Warmed39 U.vm ∧ U.heap = h0) (fun _ _ _ _ _ => True) (fun _ U o U' => ∃ v L, o = .returned v ∧ Q1 Z  h0 n0 v U'.heap L ∧ FrameEnd U o U' L ({ frames := 0, cells := 1, slots := 26, locals := 0 } : Room).cells ({ frames := 0, cells := 1, slots := 26, locals := 0 } : Room).slots) := by
  refine MetFree.of_bodySF (plainFor_of_name pn_com_example_cladestream_cladestream_AlignmentStateSetPinLaw) hisR ?_
  intro p e s m args below meth c s₁ Bd hml0 hP hK
  obtain ⟨rfl, hZ, hh⟩ := hP
  have hx := Bd.exec
  have hby := Bd.bytes
  have hml : c.maxLocals = 1 := hml0
  have hown : s.vm.findClass "com/example/cladestream/cladestream/AlignmentStateSetPinLaw" = some m.cls := findClass_of_methodNamed Bd.named
  have hnm := (name_of_methodNamed Bd.named Bd.method).1
  have hlk := Bd.notSynchronized
  have X0 : Stand p l e ({ frames := 0, cells := 1, slots := 26, locals := 0 } : Room) s m #[] below meth c s₁ [] 0 0 := Stand.of_body Bd
  have e0 : s₁.heap = h0 := by rw [← hh, Bd.state]; rfl
  have N0 := Fr.nil n0
  show Go p.tables e below s ({ frames := 0, cells := 1, slots := 26, locals := 0 } : Room).cells ({ frames := 0, cells := 1, slots := 26, locals := 0 } : Room).slots (Q1 Z  h0 n0) _
  refine go (fun t k => castTop (ef_rm1 m ) k) ?_
  refine go (B := s₁.setTop (mkF m 2 #[.unset] [(.int (26 : Int32))])) (fun _ k => XS.bipush X0.here hx rfl (hb hby d1_0) k) ?_
  obtain ⟨T1, h1, k1, X1, e1, E1, A1, st1⟩ := newP X0 hx hZ (hw _ (List.mem_of_getElem? (i := 4) rfl)) e0 (g := (mkF m 2 #[.unset] [(.int (26 : Int32))])) rfl (hb hby d1_2) rfl (by decide) (cap := 26) (by decide) (by decide) (by decide) (by decide)
  obtain ⟨b1, g1⟩ : ∃ z, z = Array.size (h0) := ⟨_, rfl⟩
  rw [← g1] at A1 st1
  have g_b1 : n0 ≤ b1 := Nat.le_trans Z0 (Nat.le_of_eq g1.symm)
  have Z1 : n0 ≤ h1.size := Nat.le_trans Z0 E1.1
  have V_b1 := Arv.new A1 (by decide)
  refine go (B := T1.setTop (mkF m 4 #[.unset] [(.ref b1)])) (fun _ k => st1 _ k) ?_
  replace V_b1 : Arv Z h1 b1 k1 .int (26 : Int32) [(.int 0), (.int 0), (.int 0), (.int 0), (.int 0), (.int 0), (.int 0), (.int 0), (.int 0), (.int 0), (.int 0), (.int 0), (.int 0), (.int 0), (.int 0), (.int 0), (.int 0), (.int 0), (.int 0), (.int 0), (.int 0), (.int 0), (.int 0), (.int 0), (.int 0), (.int 0)] (.int 0) := V_b1.pad (pad_rep [] (.int 0) 26)
  refine go (B := T1.setTop (mkF m 5 #[.val (.ref b1)] [])) (fun _ k => XS.astoreN X1.here hx rfl (hb hby d1_4) rfl rfl (l' := #[.val (.ref b1)]) rfl k) ?_
  refine go (B := T1.setTop (mkF m 6 #[.val (.ref b1)] [(.ref b1)])) (fun _ k => XS.aloadN X1.here hx rfl (hb hby d1_5) rfl rfl k) ?_
  refine go (B := T1.setTop (mkF m 7 #[.val (.ref b1)] [(.int (0 : Int32)), (.ref b1)])) (fun _ k => XS.iconst X1.here hx rfl (hb hby d1_6) k) ?_
  refine go (B := T1.setTop (mkF m 8 #[.val (.ref b1)] [(.int (1 : Int32)), (.int (0 : Int32)), (.ref b1)])) (fun _ k => XS.iconst X1.here hx rfl (hb hby d1_7) k) ?_
  obtain ⟨cl2, Ar2, q2, S2, M2, H2, G2⟩ := V_b1
  obtain ⟨T2, h2, X2, e2, W2, st2⟩ := stI X1 hx hZ e1 Ar2 (j := (0 : Int32)) (inb_of S2 ⟨by decide, by decide⟩) (g := (mkF m 8 #[.val (.ref b1)] [(.int (1 : Int32)), (.int (0 : Int32)), (.ref b1)])) rfl rfl (hb hby d1_8)
  have V2 : Arv Z h2 b1 k1 .int (26 : Int32) [(.int 1), (.int 0), (.int 0), (.int 0), (.int 0), (.int 0), (.int 0), (.int 0), (.int 0), (.int 0), (.int 0), (.int 0), (.int 0), (.int 0), (.int 0), (.int 0), (.int 0), (.int 0), (.int 0), (.int 0), (.int 0), (.int 0), (.int 0), (.int 0), (.int 0), (.int 0)] (.int 0) := Arv.set Ar2 q2 S2 M2 H2 G2 rfl W2 0 rfl (by decide)
  have N2 := Fr.snoc X2 N0 g_b1
  have Z2 : n0 ≤ h2.size := Nat.le_trans Z1 (Keep.of_wr W2).1
  refine go (B := T2.setTop (mkF m 9 #[.val (.ref b1)] [])) (fun _ k => st2 _ k) ?_
  refine go (B := T2.setTop (mkF m 10 #[.val (.ref b1)] [(.ref b1)])) (fun _ k => XS.aloadN X2.here hx rfl (hb hby d1_9) rfl rfl k) ?_
  refine go (B := T2.setTop (mkF m 11 #[.val (.ref b1)] [(.int (1 : Int32)), (.ref b1)])) (fun _ k => XS.iconst X2.here hx rfl (hb hby d1_10) k) ?_
  refine go (B := T2.setTop (mkF m 13 #[.val (.ref b1)] [(.int (14 : Int32)), (.int (1 : Int32)), (.ref b1)])) (fun _ k => XS.bipush X2.here hx rfl (hb hby d1_11) k) ?_
  obtain ⟨cl3, Ar3, q3, S3, M3, H3, G3⟩ := V2
  obtain ⟨T3, h3, X3, e3, W3, st3⟩ := stI X2 hx hZ e2 Ar3 (j := (1 : Int32)) (inb_of S3 ⟨by decide, by decide⟩) (g := (mkF m 13 #[.val (.ref b1)] [(.int (14 : Int32)), (.int (1 : Int32)), (.ref b1)])) rfl rfl (hb hby d1_13)
  have V3 : Arv Z h3 b1 k1 .int (26 : Int32) [(.int 1), (.int 14), (.int 0), (.int 0), (.int 0), (.int 0), (.int 0), (.int 0), (.int 0), (.int 0), (.int 0), (.int 0), (.int 0), (.int 0), (.int 0), (.int 0), (.int 0), (.int 0), (.int 0), (.int 0), (.int 0), (.int 0), (.int 0), (.int 0), (.int 0), (.int 0)] (.int 0) := Arv.set Ar3 q3 S3 M3 H3 G3 rfl W3 1 rfl (by decide)
  have N3 := Fr.snoc X3 N2 g_b1
  have Z3 : n0 ≤ h3.size := Nat.le_trans Z2 (Keep.of_wr W3).1
  refine go (B := T3.setTop (mkF m 14 #[.val (.ref b1)] [])) (fun _ k => st3 _ k) ?_
  refine go (B := T3.setTop (mkF m 15 #[.val (.ref b1)] [(.ref b1)])) (fun _ k => XS.aloadN X3.here hx rfl (hb hby d1_14) rfl rfl k) ?_
  refine go (B := T3.setTop (mkF m 16 #[.val (.ref b1)] [(.int (2 : Int32)), (.ref b1)])) (fun _ k => XS.iconst X3.here hx rfl (hb hby d1_15) k) ?_
  refine go (B := T3.setTop (mkF m 17 #[.val (.ref b1)] [(.int (2 : Int32)), (.int (2 : Int32)), (.ref b1)])) (fun _ k => XS.iconst X3.here hx rfl (hb hby d1_16) k) ?_
  obtain ⟨cl4, Ar4, q4, S4, M4, H4, G4⟩ := V3
  obtain ⟨T4, h4, X4, e4, W4, st4⟩ := stI X3 hx hZ e3 Ar4 (j := (2 : Int32)) (inb_of S4 ⟨by decide, by decide⟩) (g := (mkF m 17 #[.val (.ref b1)] [(.int (2 : Int32)), (.int (2 : Int32)), (.ref b1)])) rfl rfl (hb hby d1_17)
  have V4 : Arv Z h4 b1 k1 .int (26 : Int32) [(.int 1), (.int 14), (.int 2), (.int 0), (.int 0), (.int 0), (.int 0), (.int 0), (.int 0), (.int 0), (.int 0), (.int 0), (.int 0), (.int 0), (.int 0), (.int 0), (.int 0), (.int 0), (.int 0), (.int 0), (.int 0), (.int 0), (.int 0), (.int 0), (.int 0), (.int 0)] (.int 0) := Arv.set Ar4 q4 S4 M4 H4 G4 rfl W4 2 rfl (by decide)
  have N4 := Fr.snoc X4 N3 g_b1
  have Z4 : n0 ≤ h4.size := Nat.le_trans Z3 (Keep.of_wr W4).1
  refine go (B := T4.setTop (mkF m 18 #[.val (.ref b1)] [])) (fun _ k => st4 _ k) ?_
  refine go (B := T4.setTop (mkF m 19 #[.val (.ref b1)] [(.ref b1)])) (fun _ k => XS.aloadN X4.here hx rfl (hb hby d1_18) rfl rfl k) ?_
  refine go (B := T4.setTop (mkF m 20 #[.val (.ref b1)] [(.int (3 : Int32)), (.ref b1)])) (fun _ k => XS.iconst X4.here hx rfl (hb hby d1_19) k) ?_
  refine go (B := T4.setTop (mkF m 22 #[.val (.ref b1)] [(.int (13 : Int32)), (.int (3 : Int32)), (.ref b1)])) (fun _ k => XS.bipush X4.here hx rfl (hb hby d1_20) k) ?_
  obtain ⟨cl5, Ar5, q5, S5, M5, H5, G5⟩ := V4
  obtain ⟨T5, h5, X5, e5, W5, st5⟩ := stI X4 hx hZ e4 Ar5 (j := (3 : Int32)) (inb_of S5 ⟨by decide, by decide⟩) (g := (mkF m 22 #[.val (.ref b1)] [(.int (13 : Int32)), (.int (3 : Int32)), (.ref b1)])) rfl rfl (hb hby d1_22)
  have V5 : Arv Z h5 b1 k1 .int (26 : Int32) [(.int 1), (.int 14), (.int 2), (.int 13), (.int 0), (.int 0), (.int 0), (.int 0), (.int 0), (.int 0), (.int 0), (.int 0), (.int 0), (.int 0), (.int 0), (.int 0), (.int 0), (.int 0), (.int 0), (.int 0), (.int 0), (.int 0), (.int 0), (.int 0), (.int 0), (.int 0)] (.int 0) := Arv.set Ar5 q5 S5 M5 H5 G5 rfl W5 3 rfl (by decide)
  have N5 := Fr.snoc X5 N4 g_b1
  have Z5 : n0 ≤ h5.size := Nat.le_trans Z4 (Keep.of_wr W5).1
  refine go (B := T5.setTop (mkF m 23 #[.val (.ref b1)] [])) (fun _ k => st5 _ k) ?_
  refine go (B := T5.setTop (mkF m 24 #[.val (.ref b1)] [(.ref b1)])) (fun _ k => XS.aloadN X5.here hx rfl (hb hby d1_23) rfl rfl k) ?_
  refine go (B := T5.setTop (mkF m 25 #[.val (.ref b1)] [(.int (4 : Int32)), (.ref b1)])) (fun _ k => XS.iconst X5.here hx rfl (hb hby d1_24) k) ?_
  refine go (B := T5.setTop (mkF m 26 #[.val (.ref b1)] [(.int (-1 : Int32)), (.int (4 : Int32)), (.ref b1)])) (fun _ k => XS.iconst X5.here hx rfl (hb hby d1_25) k) ?_
  obtain ⟨cl6, Ar6, q6, S6, M6, H6, G6⟩ := V5
  obtain ⟨T6, h6, X6, e6, W6, st6⟩ := stI X5 hx hZ e5 Ar6 (j := (4 : Int32)) (inb_of S6 ⟨by decide, by decide⟩) (g := (mkF m 26 #[.val (.ref b1)] [(.int (-1 : Int32)), (.int (4 : Int32)), (.ref b1)])) rfl rfl (hb hby d1_26)
  have V6 : Arv Z h6 b1 k1 .int (26 : Int32) [(.int 1), (.int 14), (.int 2), (.int 13), (.int (-1)), (.int 0), (.int 0), (.int 0), (.int 0), (.int 0), (.int 0), (.int 0), (.int 0), (.int 0), (.int 0), (.int 0), (.int 0), (.int 0), (.int 0), (.int 0), (.int 0), (.int 0), (.int 0), (.int 0), (.int 0), (.int 0)] (.int 0) := Arv.set Ar6 q6 S6 M6 H6 G6 rfl W6 4 rfl (by decide)
  have N6 := Fr.snoc X6 N5 g_b1
  have Z6 : n0 ≤ h6.size := Nat.le_trans Z5 (Keep.of_wr W6).1
  refine go (B := T6.setTop (mkF m 27 #[.val (.ref b1)] [])) (fun _ k => st6 _ k) ?_
  refine go (B := T6.setTop (mkF m 28 #[.val (.ref b1)] [(.ref b1)])) (fun _ k => XS.aloadN X6.here hx rfl (hb hby d1_27) rfl rfl k) ?_
  refine go (B := T6.setTop (mkF m 29 #[.val (.ref b1)] [(.int (5 : Int32)), (.ref b1)])) (fun _ k => XS.iconst X6.here hx rfl (hb hby d1_28) k) ?_
  refine go (B := T6.setTop (mkF m 30 #[.val (.ref b1)] [(.int (-1 : Int32)), (.int (5 : Int32)), (.ref b1)])) (fun _ k => XS.iconst X6.here hx rfl (hb hby d1_29) k) ?_
  obtain ⟨cl7, Ar7, q7, S7, M7, H7, G7⟩ := V6
  obtain ⟨T7, h7, X7, e7, W7, st7⟩ := stI X6 hx hZ e6 Ar7 (j := (5 : Int32)) (inb_of S7 ⟨by decide, by decide⟩) (g := (mkF m 30 #[.val (.ref b1)] [(.int (-1 : Int32)), (.int (5 : Int32)), (.ref b1)])) rfl rfl (hb hby d1_30)
  have V7 : Arv Z h7 b1 k1 .int (26 : Int32) [(.int 1), (.int 14), (.int 2), (.int 13), (.int (-1)), (.int (-1)), (.int 0), (.int 0), (.int 0), (.int 0), (.int 0), (.int 0), (.int 0), (.int 0), (.int 0), (.int 0), (.int 0), (.int 0), (.int 0), (.int 0), (.int 0), (.int 0), (.int 0), (.int 0), (.int 0), (.int 0)] (.int 0) := Arv.set Ar7 q7 S7 M7 H7 G7 rfl W7 5 rfl (by decide)
  have N7 := Fr.snoc X7 N6 g_b1
  have Z7 : n0 ≤ h7.size := Nat.le_trans Z6 (Keep.of_wr W7).1
  refine go (B := T7.setTop (mkF m 31 #[.val (.ref b1)] [])) (fun _ k => st7 _ k) ?_
  refine go (B := T7.setTop (mkF m 32 #[.val (.ref b1)] [(.ref b1)])) (fun _ k => XS.aloadN X7.here hx rfl (hb hby d1_31) rfl rfl k) ?_
  refine go (B := T7.setTop (mkF m 34 #[.val (.ref b1)] [(.int (6 : Int32)), (.ref b1)])) (fun _ k => XS.bipush X7.here hx rfl (hb hby d1_32) k) ?_
  refine go (B := T7.setTop (mkF m 35 #[.val (.ref b1)] [(.int (4 : Int32)), (.int (6 : Int32)), (.ref b1)])) (fun _ k => XS.iconst X7.here hx rfl (hb hby d1_34) k) ?_
  obtain ⟨cl8, Ar8, q8, S8, M8, H8, G8⟩ := V7
  obtain ⟨T8, h8, X8, e8, W8, st8⟩ := stI X7 hx hZ e7 Ar8 (j := (6 : Int32)) (inb_of S8 ⟨by decide, by decide⟩) (g := (mkF m 35 #[.val (.ref b1)] [(.int (4 : Int32)), (.int (6 : Int32)), (.ref b1)])) rfl rfl (hb hby d1_35)
  have V8 : Arv Z h8 b1 k1 .int (26 : Int32) [(.int 1), (.int 14), (.int 2), (.int 13), (.int (-1)), (.int (-1)), (.int 4), (.int 0), (.int 0), (.int 0), (.int 0), (.int 0), (.int 0), (.int 0), (.int 0), (.int 0), (.int 0), (.int 0), (.int 0), (.int 0), (.int 0), (.int 0), (.int 0), (.int 0), (.int 0), (.int 0)] (.int 0) := Arv.set Ar8 q8 S8 M8 H8 G8 rfl W8 6 rfl (by decide)
  have N8 := Fr.snoc X8 N7 g_b1
  have Z8 : n0 ≤ h8.size := Nat.le_trans Z7 (Keep.of_wr W8).1
  refine go (B := T8.setTop (mkF m 36 #[.val (.ref b1)] [])) (fun _ k => st8 _ k) ?_
  refine go (B := T8.setTop (mkF m 37 #[.val (.ref b1)] [(.ref b1)])) (fun _ k => XS.aloadN X8.here hx rfl (hb hby d1_36) rfl rfl k) ?_
  refine go (B := T8.setTop (mkF m 39 #[.val (.ref b1)] [(.int (7 : Int32)), (.ref b1)])) (fun _ k => XS.bipush X8.here hx rfl (hb hby d1_37) k) ?_
  refine go (B := T8.setTop (mkF m 41 #[.val (.ref b1)] [(.int (11 : Int32)), (.int (7 : Int32)), (.ref b1)])) (fun _ k => XS.bipush X8.here hx rfl (hb hby d1_39) k) ?_
  obtain ⟨cl9, Ar9, q9, S9, M9, H9, G9⟩ := V8
  obtain ⟨T9, h9, X9, e9, W9, st9⟩ := stI X8 hx hZ e8 Ar9 (j := (7 : Int32)) (inb_of S9 ⟨by decide, by decide⟩) (g := (mkF m 41 #[.val (.ref b1)] [(.int (11 : Int32)), (.int (7 : Int32)), (.ref b1)])) rfl rfl (hb hby d1_41)
  have V9 : Arv Z h9 b1 k1 .int (26 : Int32) [(.int 1), (.int 14), (.int 2), (.int 13), (.int (-1)), (.int (-1)), (.int 4), (.int 11), (.int 0), (.int 0), (.int 0), (.int 0), (.int 0), (.int 0), (.int 0), (.int 0), (.int 0), (.int 0), (.int 0), (.int 0), (.int 0), (.int 0), (.int 0), (.int 0), (.int 0), (.int 0)] (.int 0) := Arv.set Ar9 q9 S9 M9 H9 G9 rfl W9 7 rfl (by decide)
  have N9 := Fr.snoc X9 N8 g_b1
  have Z9 : n0 ≤ h9.size := Nat.le_trans Z8 (Keep.of_wr W9).1
  refine go (B := T9.setTop (mkF m 42 #[.val (.ref b1)] [])) (fun _ k => st9 _ k) ?_
  refine go (B := T9.setTop (mkF m 43 #[.val (.ref b1)] [(.ref b1)])) (fun _ k => XS.aloadN X9.here hx rfl (hb hby d1_42) rfl rfl k) ?_
  refine go (B := T9.setTop (mkF m 45 #[.val (.ref b1)] [(.int (8 : Int32)), (.ref b1)])) (fun _ k => XS.bipush X9.here hx rfl (hb hby d1_43) k) ?_
  refine go (B := T9.setTop (mkF m 46 #[.val (.ref b1)] [(.int (-1 : Int32)), (.int (8 : Int32)), (.ref b1)])) (fun _ k => XS.iconst X9.here hx rfl (hb hby d1_45) k) ?_
  obtain ⟨cl10, Ar10, q10, S10, M10, H10, G10⟩ := V9
  obtain ⟨T10, h10, X10, e10, W10, st10⟩ := stI X9 hx hZ e9 Ar10 (j := (8 : Int32)) (inb_of S10 ⟨by decide, by decide⟩) (g := (mkF m 46 #[.val (.ref b1)] [(.int (-1 : Int32)), (.int (8 : Int32)), (.ref b1)])) rfl rfl (hb hby d1_46)
  have V10 : Arv Z h10 b1 k1 .int (26 : Int32) [(.int 1), (.int 14), (.int 2), (.int 13), (.int (-1)), (.int (-1)), (.int 4), (.int 11), (.int (-1)), (.int 0), (.int 0), (.int 0), (.int 0), (.int 0), (.int 0), (.int 0), (.int 0), (.int 0), (.int 0), (.int 0), (.int 0), (.int 0), (.int 0), (.int 0), (.int 0), (.int 0)] (.int 0) := Arv.set Ar10 q10 S10 M10 H10 G10 rfl W10 8 rfl (by decide)
  have N10 := Fr.snoc X10 N9 g_b1
  have Z10 : n0 ≤ h10.size := Nat.le_trans Z9 (Keep.of_wr W10).1
  refine go (B := T10.setTop (mkF m 47 #[.val (.ref b1)] [])) (fun _ k => st10 _ k) ?_
  refine go (B := T10.setTop (mkF m 48 #[.val (.ref b1)] [(.ref b1)])) (fun _ k => XS.aloadN X10.here hx rfl (hb hby d1_47) rfl rfl k) ?_
  refine go (B := T10.setTop (mkF m 50 #[.val (.ref b1)] [(.int (9 : Int32)), (.ref b1)])) (fun _ k => XS.bipush X10.here hx rfl (hb hby d1_48) k) ?_
  refine go (B := T10.setTop (mkF m 51 #[.val (.ref b1)] [(.int (-1 : Int32)), (.int (9 : Int32)), (.ref b1)])) (fun _ k => XS.iconst X10.here hx rfl (hb hby d1_50) k) ?_
  obtain ⟨cl11, Ar11, q11, S11, M11, H11, G11⟩ := V10
  obtain ⟨T11, h11, X11, e11, W11, st11⟩ := stI X10 hx hZ e10 Ar11 (j := (9 : Int32)) (inb_of S11 ⟨by decide, by decide⟩) (g := (mkF m 51 #[.val (.ref b1)] [(.int (-1 : Int32)), (.int (9 : Int32)), (.ref b1)])) rfl rfl (hb hby d1_51)
  have V11 : Arv Z h11 b1 k1 .int (26 : Int32) [(.int 1), (.int 14), (.int 2), (.int 13), (.int (-1)), (.int (-1)), (.int 4), (.int 11), (.int (-1)), (.int (-1)), (.int 0), (.int 0), (.int 0), (.int 0), (.int 0), (.int 0), (.int 0), (.int 0), (.int 0), (.int 0), (.int 0), (.int 0), (.int 0), (.int 0), (.int 0), (.int 0)] (.int 0) := Arv.set Ar11 q11 S11 M11 H11 G11 rfl W11 9 rfl (by decide)
  have N11 := Fr.snoc X11 N10 g_b1
  have Z11 : n0 ≤ h11.size := Nat.le_trans Z10 (Keep.of_wr W11).1
  refine go (B := T11.setTop (mkF m 52 #[.val (.ref b1)] [])) (fun _ k => st11 _ k) ?_
  refine go (B := T11.setTop (mkF m 53 #[.val (.ref b1)] [(.ref b1)])) (fun _ k => XS.aloadN X11.here hx rfl (hb hby d1_52) rfl rfl k) ?_
  refine go (B := T11.setTop (mkF m 55 #[.val (.ref b1)] [(.int (10 : Int32)), (.ref b1)])) (fun _ k => XS.bipush X11.here hx rfl (hb hby d1_53) k) ?_
  refine go (B := T11.setTop (mkF m 57 #[.val (.ref b1)] [(.int (12 : Int32)), (.int (10 : Int32)), (.ref b1)])) (fun _ k => XS.bipush X11.here hx rfl (hb hby d1_55) k) ?_
  obtain ⟨cl12, Ar12, q12, S12, M12, H12, G12⟩ := V11
  obtain ⟨T12, h12, X12, e12, W12, st12⟩ := stI X11 hx hZ e11 Ar12 (j := (10 : Int32)) (inb_of S12 ⟨by decide, by decide⟩) (g := (mkF m 57 #[.val (.ref b1)] [(.int (12 : Int32)), (.int (10 : Int32)), (.ref b1)])) rfl rfl (hb hby d1_57)
  have V12 : Arv Z h12 b1 k1 .int (26 : Int32) [(.int 1), (.int 14), (.int 2), (.int 13), (.int (-1)), (.int (-1)), (.int 4), (.int 11), (.int (-1)), (.int (-1)), (.int 12), (.int 0), (.int 0), (.int 0), (.int 0), (.int 0), (.int 0), (.int 0), (.int 0), (.int 0), (.int 0), (.int 0), (.int 0), (.int 0), (.int 0), (.int 0)] (.int 0) := Arv.set Ar12 q12 S12 M12 H12 G12 rfl W12 10 rfl (by decide)
  have N12 := Fr.snoc X12 N11 g_b1
  have Z12 : n0 ≤ h12.size := Nat.le_trans Z11 (Keep.of_wr W12).1
  refine go (B := T12.setTop (mkF m 58 #[.val (.ref b1)] [])) (fun _ k => st12 _ k) ?_
  refine go (B := T12.setTop (mkF m 59 #[.val (.ref b1)] [(.ref b1)])) (fun _ k => XS.aloadN X12.here hx rfl (hb hby d1_58) rfl rfl k) ?_
  refine go (B := T12.setTop (mkF m 61 #[.val (.ref b1)] [(.int (11 : Int32)), (.ref b1)])) (fun _ k => XS.bipush X12.here hx rfl (hb hby d1_59) k) ?_
  refine go (B := T12.setTop (mkF m 62 #[.val (.ref b1)] [(.int (-1 : Int32)), (.int (11 : Int32)), (.ref b1)])) (fun _ k => XS.iconst X12.here hx rfl (hb hby d1_61) k) ?_
  obtain ⟨cl13, Ar13, q13, S13, M13, H13, G13⟩ := V12
  obtain ⟨T13, h13, X13, e13, W13, st13⟩ := stI X12 hx hZ e12 Ar13 (j := (11 : Int32)) (inb_of S13 ⟨by decide, by decide⟩) (g := (mkF m 62 #[.val (.ref b1)] [(.int (-1 : Int32)), (.int (11 : Int32)), (.ref b1)])) rfl rfl (hb hby d1_62)
  have V13 : Arv Z h13 b1 k1 .int (26 : Int32) [(.int 1), (.int 14), (.int 2), (.int 13), (.int (-1)), (.int (-1)), (.int 4), (.int 11), (.int (-1)), (.int (-1)), (.int 12), (.int (-1)), (.int 0), (.int 0), (.int 0), (.int 0), (.int 0), (.int 0), (.int 0), (.int 0), (.int 0), (.int 0), (.int 0), (.int 0), (.int 0), (.int 0)] (.int 0) := Arv.set Ar13 q13 S13 M13 H13 G13 rfl W13 11 rfl (by decide)
  have N13 := Fr.snoc X13 N12 g_b1
  have Z13 : n0 ≤ h13.size := Nat.le_trans Z12 (Keep.of_wr W13).1
  refine go (B := T13.setTop (mkF m 63 #[.val (.ref b1)] [])) (fun _ k => st13 _ k) ?_
  refine go (B := T13.setTop (mkF m 64 #[.val (.ref b1)] [(.ref b1)])) (fun _ k => XS.aloadN X13.here hx rfl (hb hby d1_63) rfl rfl k) ?_
  refine go (B := T13.setTop (mkF m 66 #[.val (.ref b1)] [(.int (12 : Int32)), (.ref b1)])) (fun _ k => XS.bipush X13.here hx rfl (hb hby d1_64) k) ?_
  refine go (B := T13.setTop (mkF m 67 #[.val (.ref b1)] [(.int (3 : Int32)), (.int (12 : Int32)), (.ref b1)])) (fun _ k => XS.iconst X13.here hx rfl (hb hby d1_66) k) ?_
  obtain ⟨cl14, Ar14, q14, S14, M14, H14, G14⟩ := V13
  obtain ⟨T14, h14, X14, e14, W14, st14⟩ := stI X13 hx hZ e13 Ar14 (j := (12 : Int32)) (inb_of S14 ⟨by decide, by decide⟩) (g := (mkF m 67 #[.val (.ref b1)] [(.int (3 : Int32)), (.int (12 : Int32)), (.ref b1)])) rfl rfl (hb hby d1_67)
  have V14 : Arv Z h14 b1 k1 .int (26 : Int32) [(.int 1), (.int 14), (.int 2), (.int 13), (.int (-1)), (.int (-1)), (.int 4), (.int 11), (.int (-1)), (.int (-1)), (.int 12), (.int (-1)), (.int 3), (.int 0), (.int 0), (.int 0), (.int 0), (.int 0), (.int 0), (.int 0), (.int 0), (.int 0), (.int 0), (.int 0), (.int 0), (.int 0)] (.int 0) := Arv.set Ar14 q14 S14 M14 H14 G14 rfl W14 12 rfl (by decide)
  have N14 := Fr.snoc X14 N13 g_b1
  have Z14 : n0 ≤ h14.size := Nat.le_trans Z13 (Keep.of_wr W14).1
  refine go (B := T14.setTop (mkF m 68 #[.val (.ref b1)] [])) (fun _ k => st14 _ k) ?_
  refine go (B := T14.setTop (mkF m 69 #[.val (.ref b1)] [(.ref b1)])) (fun _ k => XS.aloadN X14.here hx rfl (hb hby d1_68) rfl rfl k) ?_
  refine go (B := T14.setTop (mkF m 71 #[.val (.ref b1)] [(.int (13 : Int32)), (.ref b1)])) (fun _ k => XS.bipush X14.here hx rfl (hb hby d1_69) k) ?_
  refine go (B := T14.setTop (mkF m 73 #[.val (.ref b1)] [(.int (15 : Int32)), (.int (13 : Int32)), (.ref b1)])) (fun _ k => XS.bipush X14.here hx rfl (hb hby d1_71) k) ?_
  obtain ⟨cl15, Ar15, q15, S15, M15, H15, G15⟩ := V14
  obtain ⟨T15, h15, X15, e15, W15, st15⟩ := stI X14 hx hZ e14 Ar15 (j := (13 : Int32)) (inb_of S15 ⟨by decide, by decide⟩) (g := (mkF m 73 #[.val (.ref b1)] [(.int (15 : Int32)), (.int (13 : Int32)), (.ref b1)])) rfl rfl (hb hby d1_73)
  have V15 : Arv Z h15 b1 k1 .int (26 : Int32) [(.int 1), (.int 14), (.int 2), (.int 13), (.int (-1)), (.int (-1)), (.int 4), (.int 11), (.int (-1)), (.int (-1)), (.int 12), (.int (-1)), (.int 3), (.int 15), (.int 0), (.int 0), (.int 0), (.int 0), (.int 0), (.int 0), (.int 0), (.int 0), (.int 0), (.int 0), (.int 0), (.int 0)] (.int 0) := Arv.set Ar15 q15 S15 M15 H15 G15 rfl W15 13 rfl (by decide)
  have N15 := Fr.snoc X15 N14 g_b1
  have Z15 : n0 ≤ h15.size := Nat.le_trans Z14 (Keep.of_wr W15).1
  refine go (B := T15.setTop (mkF m 74 #[.val (.ref b1)] [])) (fun _ k => st15 _ k) ?_
  refine go (B := T15.setTop (mkF m 75 #[.val (.ref b1)] [(.ref b1)])) (fun _ k => XS.aloadN X15.here hx rfl (hb hby d1_74) rfl rfl k) ?_
  refine go (B := T15.setTop (mkF m 77 #[.val (.ref b1)] [(.int (14 : Int32)), (.ref b1)])) (fun _ k => XS.bipush X15.here hx rfl (hb hby d1_75) k) ?_
  refine go (B := T15.setTop (mkF m 78 #[.val (.ref b1)] [(.int (-1 : Int32)), (.int (14 : Int32)), (.ref b1)])) (fun _ k => XS.iconst X15.here hx rfl (hb hby d1_77) k) ?_
  obtain ⟨cl16, Ar16, q16, S16, M16, H16, G16⟩ := V15
  obtain ⟨T16, h16, X16, e16, W16, st16⟩ := stI X15 hx hZ e15 Ar16 (j := (14 : Int32)) (inb_of S16 ⟨by decide, by decide⟩) (g := (mkF m 78 #[.val (.ref b1)] [(.int (-1 : Int32)), (.int (14 : Int32)), (.ref b1)])) rfl rfl (hb hby d1_78)
  have V16 : Arv Z h16 b1 k1 .int (26 : Int32) [(.int 1), (.int 14), (.int 2), (.int 13), (.int (-1)), (.int (-1)), (.int 4), (.int 11), (.int (-1)), (.int (-1)), (.int 12), (.int (-1)), (.int 3), (.int 15), (.int (-1)), (.int 0), (.int 0), (.int 0), (.int 0), (.int 0), (.int 0), (.int 0), (.int 0), (.int 0), (.int 0), (.int 0)] (.int 0) := Arv.set Ar16 q16 S16 M16 H16 G16 rfl W16 14 rfl (by decide)
  have N16 := Fr.snoc X16 N15 g_b1
  have Z16 : n0 ≤ h16.size := Nat.le_trans Z15 (Keep.of_wr W16).1
  refine go (B := T16.setTop (mkF m 79 #[.val (.ref b1)] [])) (fun _ k => st16 _ k) ?_
  refine go (B := T16.setTop (mkF m 80 #[.val (.ref b1)] [(.ref b1)])) (fun _ k => XS.aloadN X16.here hx rfl (hb hby d1_79) rfl rfl k) ?_
  refine go (B := T16.setTop (mkF m 82 #[.val (.ref b1)] [(.int (15 : Int32)), (.ref b1)])) (fun _ k => XS.bipush X16.here hx rfl (hb hby d1_80) k) ?_
  refine go (B := T16.setTop (mkF m 83 #[.val (.ref b1)] [(.int (-1 : Int32)), (.int (15 : Int32)), (.ref b1)])) (fun _ k => XS.iconst X16.here hx rfl (hb hby d1_82) k) ?_
  obtain ⟨cl17, Ar17, q17, S17, M17, H17, G17⟩ := V16
  obtain ⟨T17, h17, X17, e17, W17, st17⟩ := stI X16 hx hZ e16 Ar17 (j := (15 : Int32)) (inb_of S17 ⟨by decide, by decide⟩) (g := (mkF m 83 #[.val (.ref b1)] [(.int (-1 : Int32)), (.int (15 : Int32)), (.ref b1)])) rfl rfl (hb hby d1_83)
  have V17 : Arv Z h17 b1 k1 .int (26 : Int32) [(.int 1), (.int 14), (.int 2), (.int 13), (.int (-1)), (.int (-1)), (.int 4), (.int 11), (.int (-1)), (.int (-1)), (.int 12), (.int (-1)), (.int 3), (.int 15), (.int (-1)), (.int (-1)), (.int 0), (.int 0), (.int 0), (.int 0), (.int 0), (.int 0), (.int 0), (.int 0), (.int 0), (.int 0)] (.int 0) := Arv.set Ar17 q17 S17 M17 H17 G17 rfl W17 15 rfl (by decide)
  have N17 := Fr.snoc X17 N16 g_b1
  have Z17 : n0 ≤ h17.size := Nat.le_trans Z16 (Keep.of_wr W17).1
  refine go (B := T17.setTop (mkF m 84 #[.val (.ref b1)] [])) (fun _ k => st17 _ k) ?_
  refine go (B := T17.setTop (mkF m 85 #[.val (.ref b1)] [(.ref b1)])) (fun _ k => XS.aloadN X17.here hx rfl (hb hby d1_84) rfl rfl k) ?_
  refine go (B := T17.setTop (mkF m 87 #[.val (.ref b1)] [(.int (16 : Int32)), (.ref b1)])) (fun _ k => XS.bipush X17.here hx rfl (hb hby d1_85) k) ?_
  refine go (B := T17.setTop (mkF m 88 #[.val (.ref b1)] [(.int (-1 : Int32)), (.int (16 : Int32)), (.ref b1)])) (fun _ k => XS.iconst X17.here hx rfl (hb hby d1_87) k) ?_
  obtain ⟨cl18, Ar18, q18, S18, M18, H18, G18⟩ := V17
  obtain ⟨T18, h18, X18, e18, W18, st18⟩ := stI X17 hx hZ e17 Ar18 (j := (16 : Int32)) (inb_of S18 ⟨by decide, by decide⟩) (g := (mkF m 88 #[.val (.ref b1)] [(.int (-1 : Int32)), (.int (16 : Int32)), (.ref b1)])) rfl rfl (hb hby d1_88)
  have V18 : Arv Z h18 b1 k1 .int (26 : Int32) [(.int 1), (.int 14), (.int 2), (.int 13), (.int (-1)), (.int (-1)), (.int 4), (.int 11), (.int (-1)), (.int (-1)), (.int 12), (.int (-1)), (.int 3), (.int 15), (.int (-1)), (.int (-1)), (.int (-1)), (.int 0), (.int 0), (.int 0), (.int 0), (.int 0), (.int 0), (.int 0), (.int 0), (.int 0)] (.int 0) := Arv.set Ar18 q18 S18 M18 H18 G18 rfl W18 16 rfl (by decide)
  have N18 := Fr.snoc X18 N17 g_b1
  have Z18 : n0 ≤ h18.size := Nat.le_trans Z17 (Keep.of_wr W18).1
  refine go (B := T18.setTop (mkF m 89 #[.val (.ref b1)] [])) (fun _ k => st18 _ k) ?_
  refine go (B := T18.setTop (mkF m 90 #[.val (.ref b1)] [(.ref b1)])) (fun _ k => XS.aloadN X18.here hx rfl (hb hby d1_89) rfl rfl k) ?_
  refine go (B := T18.setTop (mkF m 92 #[.val (.ref b1)] [(.int (17 : Int32)), (.ref b1)])) (fun _ k => XS.bipush X18.here hx rfl (hb hby d1_90) k) ?_
  refine go (B := T18.setTop (mkF m 93 #[.val (.ref b1)] [(.int (5 : Int32)), (.int (17 : Int32)), (.ref b1)])) (fun _ k => XS.iconst X18.here hx rfl (hb hby d1_92) k) ?_
  obtain ⟨cl19, Ar19, q19, S19, M19, H19, G19⟩ := V18
  obtain ⟨T19, h19, X19, e19, W19, st19⟩ := stI X18 hx hZ e18 Ar19 (j := (17 : Int32)) (inb_of S19 ⟨by decide, by decide⟩) (g := (mkF m 93 #[.val (.ref b1)] [(.int (5 : Int32)), (.int (17 : Int32)), (.ref b1)])) rfl rfl (hb hby d1_93)
  have V19 : Arv Z h19 b1 k1 .int (26 : Int32) [(.int 1), (.int 14), (.int 2), (.int 13), (.int (-1)), (.int (-1)), (.int 4), (.int 11), (.int (-1)), (.int (-1)), (.int 12), (.int (-1)), (.int 3), (.int 15), (.int (-1)), (.int (-1)), (.int (-1)), (.int 5), (.int 0), (.int 0), (.int 0), (.int 0), (.int 0), (.int 0), (.int 0), (.int 0)] (.int 0) := Arv.set Ar19 q19 S19 M19 H19 G19 rfl W19 17 rfl (by decide)
  have N19 := Fr.snoc X19 N18 g_b1
  have Z19 : n0 ≤ h19.size := Nat.le_trans Z18 (Keep.of_wr W19).1
  refine go (B := T19.setTop (mkF m 94 #[.val (.ref b1)] [])) (fun _ k => st19 _ k) ?_
  refine go (B := T19.setTop (mkF m 95 #[.val (.ref b1)] [(.ref b1)])) (fun _ k => XS.aloadN X19.here hx rfl (hb hby d1_94) rfl rfl k) ?_
  refine go (B := T19.setTop (mkF m 97 #[.val (.ref b1)] [(.int (18 : Int32)), (.ref b1)])) (fun _ k => XS.bipush X19.here hx rfl (hb hby d1_95) k) ?_
  refine go (B := T19.setTop (mkF m 99 #[.val (.ref b1)] [(.int (6 : Int32)), (.int (18 : Int32)), (.ref b1)])) (fun _ k => XS.bipush X19.here hx rfl (hb hby d1_97) k) ?_
  obtain ⟨cl20, Ar20, q20, S20, M20, H20, G20⟩ := V19
  obtain ⟨T20, h20, X20, e20, W20, st20⟩ := stI X19 hx hZ e19 Ar20 (j := (18 : Int32)) (inb_of S20 ⟨by decide, by decide⟩) (g := (mkF m 99 #[.val (.ref b1)] [(.int (6 : Int32)), (.int (18 : Int32)), (.ref b1)])) rfl rfl (hb hby d1_99)
  have V20 : Arv Z h20 b1 k1 .int (26 : Int32) [(.int 1), (.int 14), (.int 2), (.int 13), (.int (-1)), (.int (-1)), (.int 4), (.int 11), (.int (-1)), (.int (-1)), (.int 12), (.int (-1)), (.int 3), (.int 15), (.int (-1)), (.int (-1)), (.int (-1)), (.int 5), (.int 6), (.int 0), (.int 0), (.int 0), (.int 0), (.int 0), (.int 0), (.int 0)] (.int 0) := Arv.set Ar20 q20 S20 M20 H20 G20 rfl W20 18 rfl (by decide)
  have N20 := Fr.snoc X20 N19 g_b1
  have Z20 : n0 ≤ h20.size := Nat.le_trans Z19 (Keep.of_wr W20).1
  refine go (B := T20.setTop (mkF m 100 #[.val (.ref b1)] [])) (fun _ k => st20 _ k) ?_
  refine go (B := T20.setTop (mkF m 101 #[.val (.ref b1)] [(.ref b1)])) (fun _ k => XS.aloadN X20.here hx rfl (hb hby d1_100) rfl rfl k) ?_
  refine go (B := T20.setTop (mkF m 103 #[.val (.ref b1)] [(.int (19 : Int32)), (.ref b1)])) (fun _ k => XS.bipush X20.here hx rfl (hb hby d1_101) k) ?_
  refine go (B := T20.setTop (mkF m 105 #[.val (.ref b1)] [(.int (8 : Int32)), (.int (19 : Int32)), (.ref b1)])) (fun _ k => XS.bipush X20.here hx rfl (hb hby d1_103) k) ?_
  obtain ⟨cl21, Ar21, q21, S21, M21, H21, G21⟩ := V20
  obtain ⟨T21, h21, X21, e21, W21, st21⟩ := stI X20 hx hZ e20 Ar21 (j := (19 : Int32)) (inb_of S21 ⟨by decide, by decide⟩) (g := (mkF m 105 #[.val (.ref b1)] [(.int (8 : Int32)), (.int (19 : Int32)), (.ref b1)])) rfl rfl (hb hby d1_105)
  have V21 : Arv Z h21 b1 k1 .int (26 : Int32) [(.int 1), (.int 14), (.int 2), (.int 13), (.int (-1)), (.int (-1)), (.int 4), (.int 11), (.int (-1)), (.int (-1)), (.int 12), (.int (-1)), (.int 3), (.int 15), (.int (-1)), (.int (-1)), (.int (-1)), (.int 5), (.int 6), (.int 8), (.int 0), (.int 0), (.int 0), (.int 0), (.int 0), (.int 0)] (.int 0) := Arv.set Ar21 q21 S21 M21 H21 G21 rfl W21 19 rfl (by decide)
  have N21 := Fr.snoc X21 N20 g_b1
  have Z21 : n0 ≤ h21.size := Nat.le_trans Z20 (Keep.of_wr W21).1
  refine go (B := T21.setTop (mkF m 106 #[.val (.ref b1)] [])) (fun _ k => st21 _ k) ?_
  refine go (B := T21.setTop (mkF m 107 #[.val (.ref b1)] [(.ref b1)])) (fun _ k => XS.aloadN X21.here hx rfl (hb hby d1_106) rfl rfl k) ?_
  refine go (B := T21.setTop (mkF m 109 #[.val (.ref b1)] [(.int (20 : Int32)), (.ref b1)])) (fun _ k => XS.bipush X21.here hx rfl (hb hby d1_107) k) ?_
  refine go (B := T21.setTop (mkF m 110 #[.val (.ref b1)] [(.int (-1 : Int32)), (.int (20 : Int32)), (.ref b1)])) (fun _ k => XS.iconst X21.here hx rfl (hb hby d1_109) k) ?_
  obtain ⟨cl22, Ar22, q22, S22, M22, H22, G22⟩ := V21
  obtain ⟨T22, h22, X22, e22, W22, st22⟩ := stI X21 hx hZ e21 Ar22 (j := (20 : Int32)) (inb_of S22 ⟨by decide, by decide⟩) (g := (mkF m 110 #[.val (.ref b1)] [(.int (-1 : Int32)), (.int (20 : Int32)), (.ref b1)])) rfl rfl (hb hby d1_110)
  have V22 : Arv Z h22 b1 k1 .int (26 : Int32) [(.int 1), (.int 14), (.int 2), (.int 13), (.int (-1)), (.int (-1)), (.int 4), (.int 11), (.int (-1)), (.int (-1)), (.int 12), (.int (-1)), (.int 3), (.int 15), (.int (-1)), (.int (-1)), (.int (-1)), (.int 5), (.int 6), (.int 8), (.int (-1)), (.int 0), (.int 0), (.int 0), (.int 0), (.int 0)] (.int 0) := Arv.set Ar22 q22 S22 M22 H22 G22 rfl W22 20 rfl (by decide)
  have N22 := Fr.snoc X22 N21 g_b1
  have Z22 : n0 ≤ h22.size := Nat.le_trans Z21 (Keep.of_wr W22).1
  refine go (B := T22.setTop (mkF m 111 #[.val (.ref b1)] [])) (fun _ k => st22 _ k) ?_
  refine go (B := T22.setTop (mkF m 112 #[.val (.ref b1)] [(.ref b1)])) (fun _ k => XS.aloadN X22.here hx rfl (hb hby d1_111) rfl rfl k) ?_
  refine go (B := T22.setTop (mkF m 114 #[.val (.ref b1)] [(.int (21 : Int32)), (.ref b1)])) (fun _ k => XS.bipush X22.here hx rfl (hb hby d1_112) k) ?_
  refine go (B := T22.setTop (mkF m 116 #[.val (.ref b1)] [(.int (7 : Int32)), (.int (21 : Int32)), (.ref b1)])) (fun _ k => XS.bipush X22.here hx rfl (hb hby d1_114) k) ?_
  obtain ⟨cl23, Ar23, q23, S23, M23, H23, G23⟩ := V22
  obtain ⟨T23, h23, X23, e23, W23, st23⟩ := stI X22 hx hZ e22 Ar23 (j := (21 : Int32)) (inb_of S23 ⟨by decide, by decide⟩) (g := (mkF m 116 #[.val (.ref b1)] [(.int (7 : Int32)), (.int (21 : Int32)), (.ref b1)])) rfl rfl (hb hby d1_116)
  have V23 : Arv Z h23 b1 k1 .int (26 : Int32) [(.int 1), (.int 14), (.int 2), (.int 13), (.int (-1)), (.int (-1)), (.int 4), (.int 11), (.int (-1)), (.int (-1)), (.int 12), (.int (-1)), (.int 3), (.int 15), (.int (-1)), (.int (-1)), (.int (-1)), (.int 5), (.int 6), (.int 8), (.int (-1)), (.int 7), (.int 0), (.int 0), (.int 0), (.int 0)] (.int 0) := Arv.set Ar23 q23 S23 M23 H23 G23 rfl W23 21 rfl (by decide)
  have N23 := Fr.snoc X23 N22 g_b1
  have Z23 : n0 ≤ h23.size := Nat.le_trans Z22 (Keep.of_wr W23).1
  refine go (B := T23.setTop (mkF m 117 #[.val (.ref b1)] [])) (fun _ k => st23 _ k) ?_
  refine go (B := T23.setTop (mkF m 118 #[.val (.ref b1)] [(.ref b1)])) (fun _ k => XS.aloadN X23.here hx rfl (hb hby d1_117) rfl rfl k) ?_
  refine go (B := T23.setTop (mkF m 120 #[.val (.ref b1)] [(.int (22 : Int32)), (.ref b1)])) (fun _ k => XS.bipush X23.here hx rfl (hb hby d1_118) k) ?_
  refine go (B := T23.setTop (mkF m 122 #[.val (.ref b1)] [(.int (9 : Int32)), (.int (22 : Int32)), (.ref b1)])) (fun _ k => XS.bipush X23.here hx rfl (hb hby d1_120) k) ?_
  obtain ⟨cl24, Ar24, q24, S24, M24, H24, G24⟩ := V23
  obtain ⟨T24, h24, X24, e24, W24, st24⟩ := stI X23 hx hZ e23 Ar24 (j := (22 : Int32)) (inb_of S24 ⟨by decide, by decide⟩) (g := (mkF m 122 #[.val (.ref b1)] [(.int (9 : Int32)), (.int (22 : Int32)), (.ref b1)])) rfl rfl (hb hby d1_122)
  have V24 : Arv Z h24 b1 k1 .int (26 : Int32) [(.int 1), (.int 14), (.int 2), (.int 13), (.int (-1)), (.int (-1)), (.int 4), (.int 11), (.int (-1)), (.int (-1)), (.int 12), (.int (-1)), (.int 3), (.int 15), (.int (-1)), (.int (-1)), (.int (-1)), (.int 5), (.int 6), (.int 8), (.int (-1)), (.int 7), (.int 9), (.int 0), (.int 0), (.int 0)] (.int 0) := Arv.set Ar24 q24 S24 M24 H24 G24 rfl W24 22 rfl (by decide)
  have N24 := Fr.snoc X24 N23 g_b1
  have Z24 : n0 ≤ h24.size := Nat.le_trans Z23 (Keep.of_wr W24).1
  refine go (B := T24.setTop (mkF m 123 #[.val (.ref b1)] [])) (fun _ k => st24 _ k) ?_
  refine go (B := T24.setTop (mkF m 124 #[.val (.ref b1)] [(.ref b1)])) (fun _ k => XS.aloadN X24.here hx rfl (hb hby d1_123) rfl rfl k) ?_
  refine go (B := T24.setTop (mkF m 126 #[.val (.ref b1)] [(.int (23 : Int32)), (.ref b1)])) (fun _ k => XS.bipush X24.here hx rfl (hb hby d1_124) k) ?_
  refine go (B := T24.setTop (mkF m 127 #[.val (.ref b1)] [(.int (-1 : Int32)), (.int (23 : Int32)), (.ref b1)])) (fun _ k => XS.iconst X24.here hx rfl (hb hby d1_126) k) ?_
  obtain ⟨cl25, Ar25, q25, S25, M25, H25, G25⟩ := V24
  obtain ⟨T25, h25, X25, e25, W25, st25⟩ := stI X24 hx hZ e24 Ar25 (j := (23 : Int32)) (inb_of S25 ⟨by decide, by decide⟩) (g := (mkF m 127 #[.val (.ref b1)] [(.int (-1 : Int32)), (.int (23 : Int32)), (.ref b1)])) rfl rfl (hb hby d1_127)
  have V25 : Arv Z h25 b1 k1 .int (26 : Int32) [(.int 1), (.int 14), (.int 2), (.int 13), (.int (-1)), (.int (-1)), (.int 4), (.int 11), (.int (-1)), (.int (-1)), (.int 12), (.int (-1)), (.int 3), (.int 15), (.int (-1)), (.int (-1)), (.int (-1)), (.int 5), (.int 6), (.int 8), (.int (-1)), (.int 7), (.int 9), (.int (-1)), (.int 0), (.int 0)] (.int 0) := Arv.set Ar25 q25 S25 M25 H25 G25 rfl W25 23 rfl (by decide)
  have N25 := Fr.snoc X25 N24 g_b1
  have Z25 : n0 ≤ h25.size := Nat.le_trans Z24 (Keep.of_wr W25).1
  refine go (B := T25.setTop (mkF m 128 #[.val (.ref b1)] [])) (fun _ k => st25 _ k) ?_
  refine go (B := T25.setTop (mkF m 129 #[.val (.ref b1)] [(.ref b1)])) (fun _ k => XS.aloadN X25.here hx rfl (hb hby d1_128) rfl rfl k) ?_
  refine go (B := T25.setTop (mkF m 131 #[.val (.ref b1)] [(.int (24 : Int32)), (.ref b1)])) (fun _ k => XS.bipush X25.here hx rfl (hb hby d1_129) k) ?_
  refine go (B := T25.setTop (mkF m 133 #[.val (.ref b1)] [(.int (10 : Int32)), (.int (24 : Int32)), (.ref b1)])) (fun _ k => XS.bipush X25.here hx rfl (hb hby d1_131) k) ?_
  obtain ⟨cl26, Ar26, q26, S26, M26, H26, G26⟩ := V25
  obtain ⟨T26, h26, X26, e26, W26, st26⟩ := stI X25 hx hZ e25 Ar26 (j := (24 : Int32)) (inb_of S26 ⟨by decide, by decide⟩) (g := (mkF m 133 #[.val (.ref b1)] [(.int (10 : Int32)), (.int (24 : Int32)), (.ref b1)])) rfl rfl (hb hby d1_133)
  have V26 : Arv Z h26 b1 k1 .int (26 : Int32) [(.int 1), (.int 14), (.int 2), (.int 13), (.int (-1)), (.int (-1)), (.int 4), (.int 11), (.int (-1)), (.int (-1)), (.int 12), (.int (-1)), (.int 3), (.int 15), (.int (-1)), (.int (-1)), (.int (-1)), (.int 5), (.int 6), (.int 8), (.int (-1)), (.int 7), (.int 9), (.int (-1)), (.int 10), (.int 0)] (.int 0) := Arv.set Ar26 q26 S26 M26 H26 G26 rfl W26 24 rfl (by decide)
  have N26 := Fr.snoc X26 N25 g_b1
  have Z26 : n0 ≤ h26.size := Nat.le_trans Z25 (Keep.of_wr W26).1
  refine go (B := T26.setTop (mkF m 134 #[.val (.ref b1)] [])) (fun _ k => st26 _ k) ?_
  refine go (B := T26.setTop (mkF m 135 #[.val (.ref b1)] [(.ref b1)])) (fun _ k => XS.aloadN X26.here hx rfl (hb hby d1_134) rfl rfl k) ?_
  refine go (B := T26.setTop (mkF m 137 #[.val (.ref b1)] [(.int (25 : Int32)), (.ref b1)])) (fun _ k => XS.bipush X26.here hx rfl (hb hby d1_135) k) ?_
  refine go (B := T26.setTop (mkF m 138 #[.val (.ref b1)] [(.int (-1 : Int32)), (.int (25 : Int32)), (.ref b1)])) (fun _ k => XS.iconst X26.here hx rfl (hb hby d1_137) k) ?_
  obtain ⟨cl27, Ar27, q27, S27, M27, H27, G27⟩ := V26
  obtain ⟨T27, h27, X27, e27, W27, st27⟩ := stI X26 hx hZ e26 Ar27 (j := (25 : Int32)) (inb_of S27 ⟨by decide, by decide⟩) (g := (mkF m 138 #[.val (.ref b1)] [(.int (-1 : Int32)), (.int (25 : Int32)), (.ref b1)])) rfl rfl (hb hby d1_138)
  have V27 : Arv Z h27 b1 k1 .int (26 : Int32) [(.int 1), (.int 14), (.int 2), (.int 13), (.int (-1)), (.int (-1)), (.int 4), (.int 11), (.int (-1)), (.int (-1)), (.int 12), (.int (-1)), (.int 3), (.int 15), (.int (-1)), (.int (-1)), (.int (-1)), (.int 5), (.int 6), (.int 8), (.int (-1)), (.int 7), (.int 9), (.int (-1)), (.int 10), (.int (-1))] (.int 0) := Arv.set Ar27 q27 S27 M27 H27 G27 rfl W27 25 rfl (by decide)
  have N27 := Fr.snoc X27 N26 g_b1
  have Z27 : n0 ≤ h27.size := Nat.le_trans Z26 (Keep.of_wr W27).1
  refine go (B := T27.setTop (mkF m 139 #[.val (.ref b1)] [])) (fun _ k => st27 _ k) ?_
  refine go (B := T27.setTop (mkF m 140 #[.val (.ref b1)] [(.ref b1)])) (fun _ k => XS.aloadN X27.here hx rfl (hb hby d1_139) rfl rfl k) ?_
  refine goRetR X27 hx Bd.returns rfl hlk (hb hby d1_140) ?_ (by decide) (by decide)
  rw [e27]
  exact ⟨_, _, rfl, N27, Z27, V27⟩
theorem pn_com_example_cladestream_cladestream_Alignment : plainName "com/example/cladestream/cladestream/Alignment" = true := by first | (simp [plainName, overriddenIn]; done) | decide +kernel
theorem ef_rm2 (m : MethodId) (p1 : Int32) : entryFrame m #[(.int p1)] 2 = mkF m 0 #[.val (.int p1), .unset] [] := by first | (simp [entryFrame, mkF, argsToLocals, Value.category]; done) | rfl
def Q2 (Z : State) (p1 : Int32) (h0 : Heap) (n0 : Nat) (v : Option Value) (h : Heap) (L : List Loc) : Prop := v = some (.int (fSS p1)) ∧ Fr n0 L ∧ h = h0
theorem d2_25 : decode prog_1_method_7_code 25 = .ok (.iload_n 1, 1) := by decide +kernel
theorem d2_26 : decode prog_1_method_7_code 26 = .ok (.tableswitch 264 45 89 #[259, 264, 264, 264, 264, 264, 264, 264, 264, 264, 264, 264, 264, 264, 264, 264, 264, 264, 259, 264, 194, 239, 198, 244, 264, 264, 202, 249, 264, 264, 220, 264, 225, 259, 264, 264, 264, 211, 229, 206, 264, 254, 234, 264, 215], 194) := by decide +kernel
theorem d2_290 : decode prog_1_method_7_code 290 = .ok (.iconst (-1), 1) := by decide +kernel
theorem d2_291 : decode prog_1_method_7_code 291 = .ok (.ireturn, 1) := by decide +kernel
theorem d2_285 : decode prog_1_method_7_code 285 = .ok (.bipush 15, 2) := by decide +kernel
theorem d2_287 : decode prog_1_method_7_code 287 = .ok (.goto 4, 3) := by decide +kernel
theorem d2_220 : decode prog_1_method_7_code 220 = .ok (.iconst 1, 1) := by decide +kernel
theorem d2_221 : decode prog_1_method_7_code 221 = .ok (.goto 70, 3) := by decide +kernel
theorem d2_265 : decode prog_1_method_7_code 265 = .ok (.bipush 14, 2) := by decide +kernel
theorem d2_267 : decode prog_1_method_7_code 267 = .ok (.goto 24, 3) := by decide +kernel
theorem d2_224 : decode prog_1_method_7_code 224 = .ok (.iconst 2, 1) := by decide +kernel
theorem d2_225 : decode prog_1_method_7_code 225 = .ok (.goto 66, 3) := by decide +kernel
theorem d2_270 : decode prog_1_method_7_code 270 = .ok (.bipush 13, 2) := by decide +kernel
theorem d2_272 : decode prog_1_method_7_code 272 = .ok (.goto 19, 3) := by decide +kernel
theorem d2_228 : decode prog_1_method_7_code 228 = .ok (.iconst 4, 1) := by decide +kernel
theorem d2_229 : decode prog_1_method_7_code 229 = .ok (.goto 62, 3) := by decide +kernel
theorem d2_275 : decode prog_1_method_7_code 275 = .ok (.bipush 11, 2) := by decide +kernel
theorem d2_277 : decode prog_1_method_7_code 277 = .ok (.goto 14, 3) := by decide +kernel
theorem d2_246 : decode prog_1_method_7_code 246 = .ok (.bipush 12, 2) := by decide +kernel
theorem d2_248 : decode prog_1_method_7_code 248 = .ok (.goto 43, 3) := by decide +kernel
theorem d2_251 : decode prog_1_method_7_code 251 = .ok (.iconst 3, 1) := by decide +kernel
theorem d2_252 : decode prog_1_method_7_code 252 = .ok (.goto 39, 3) := by decide +kernel
theorem d2_237 : decode prog_1_method_7_code 237 = .ok (.iconst 5, 1) := by decide +kernel
theorem d2_238 : decode prog_1_method_7_code 238 = .ok (.goto 53, 3) := by decide +kernel
theorem d2_255 : decode prog_1_method_7_code 255 = .ok (.bipush 6, 2) := by decide +kernel
theorem d2_257 : decode prog_1_method_7_code 257 = .ok (.goto 34, 3) := by decide +kernel
theorem d2_232 : decode prog_1_method_7_code 232 = .ok (.bipush 8, 2) := by decide +kernel
theorem d2_234 : decode prog_1_method_7_code 234 = .ok (.goto 57, 3) := by decide +kernel
theorem d2_280 : decode prog_1_method_7_code 280 = .ok (.bipush 7, 2) := by decide +kernel
theorem d2_282 : decode prog_1_method_7_code 282 = .ok (.goto 9, 3) := by decide +kernel
theorem d2_260 : decode prog_1_method_7_code 260 = .ok (.bipush 9, 2) := by decide +kernel
theorem d2_262 : decode prog_1_method_7_code 262 = .ok (.goto 29, 3) := by decide +kernel
theorem d2_241 : decode prog_1_method_7_code 241 = .ok (.bipush 10, 2) := by decide +kernel
theorem d2_243 : decode prog_1_method_7_code 243 = .ok (.goto 48, 3) := by decide +kernel
theorem d2_0 : decode prog_1_method_7_code 0 = .ok (.iload_n 0, 1) := by decide +kernel
theorem d2_1 : decode prog_1_method_7_code 1 = .ok (.bipush 97, 2) := by decide +kernel
theorem d2_3 : decode prog_1_method_7_code 3 = .ok (.if_icmp .lt 20, 3) := by decide +kernel
theorem d2_23 : decode prog_1_method_7_code 23 = .ok (.iload_n 0, 1) := by decide +kernel
theorem d2_24 : decode prog_1_method_7_code 24 = .ok (.istore_n 1, 1) := by decide +kernel
theorem d2_6 : decode prog_1_method_7_code 6 = .ok (.iload_n 0, 1) := by decide +kernel
theorem d2_7 : decode prog_1_method_7_code 7 = .ok (.bipush 122, 2) := by decide +kernel
theorem d2_9 : decode prog_1_method_7_code 9 = .ok (.if_icmp .gt 14, 3) := by decide +kernel
theorem d2_12 : decode prog_1_method_7_code 12 = .ok (.iload_n 0, 1) := by decide +kernel
theorem d2_13 : decode prog_1_method_7_code 13 = .ok (.bipush 97, 2) := by decide +kernel
theorem d2_15 : decode prog_1_method_7_code 15 = .ok (.isub, 1) := by decide +kernel
theorem d2_16 : decode prog_1_method_7_code 16 = .ok (.bipush 65, 2) := by decide +kernel
theorem d2_18 : decode prog_1_method_7_code 18 = .ok (.iadd, 1) := by decide +kernel
theorem d2_19 : decode prog_1_method_7_code 19 = .ok (.i2c, 1) := by decide +kernel
theorem d2_20 : decode prog_1_method_7_code 20 = .ok (.goto 4, 3) := by decide +kernel
set_option maxRecDepth 65536 in
set_option maxHeartbeats 40000000 in
theorem rm2 (l : Launch) (Z : State) (a0 : Array Value) (hw : ∀ d ∈ tables_1, d.before a0 Z = true) (ws : List Jvm.Cond) (p1 : Int32) (h0 : Heap) (n0 : Nat) (Z0 : n0 ≤ h0.size) :
    MetFree l (⟨"com/example/cladestream/cladestream/Alignment", "stateSet", "(C)I"⟩ : MethodName) (head1 (Jvm.Cond.code (⟨"com/example/cladestream/cladestream/Alignment", "stateSet", "(C)I"⟩ : MethodName) prog_1_method_7_code 2 (some .int) :: ws) ({ frames := 0, cells := 0, slots := 0, locals := 0 } : Room)) (fun a U => a = #[(.int p1)] ∧ Z.Warmed39 U.vm ∧ U.heap = h0) (fun _ _ _ _ _ => True) (fun _ U o U' => ∃ v L, o = .returned v ∧ Q2 Z p1 h0 n0 v U'.heap L ∧ FrameEnd U o U' L ({ frames := 0, cells := 0, slots := 0, locals := 0 } : Room).cells ({ frames := 0, cells := 0, slots := 0, locals := 0 } : Room).slots) := by
  refine MetFree.of_bodySF (plainFor_of_name pn_com_example_cladestream_cladestream_Alignment) hisR ?_
  intro p e s m args below meth c s₁ Bd hml0 hP hK
  obtain ⟨rfl, hZ, hh⟩ := hP
  have hx := Bd.exec
  have hby := Bd.bytes
  have hml : c.maxLocals = 2 := hml0
  have hown : s.vm.findClass "com/example/cladestream/cladestream/Alignment" = some m.cls := findClass_of_methodNamed Bd.named
  have hnm := (name_of_methodNamed Bd.named Bd.method).1
  have hlk := Bd.notSynchronized
  have X0 : Stand p l e ({ frames := 0, cells := 0, slots := 0, locals := 0 } : Room) s m #[(.int p1)] below meth c s₁ [] 0 0 := Stand.of_body Bd
  have e0 : s₁.heap = h0 := by rw [← hh, Bd.state]; rfl
  have N0 := Fr.nil n0
  show Go p.tables e below s ({ frames := 0, cells := 0, slots := 0, locals := 0 } : Room).cells ({ frames := 0, cells := 0, slots := 0, locals := 0 } : Room).slots (Q2 Z p1 h0 n0) _
  refine go (fun t k => castTop (ef_rm2 m p1) k) ?_
  have tl25 : ∀ u : Int32, fSS p1 = ss u → Go p.tables e below s ({ frames := 0, cells := 0, slots := 0, locals := 0 } : Room).cells ({ frames := 0, cells := 0, slots := 0, locals := 0 } : Room).slots (Q2 Z p1 h0 n0) (s₁.setTop (mkF m 25 #[.val (.int p1), .val (.int u)] [])) := by
    intro u hu
    refine go (B := s₁.setTop (mkF m 26 #[.val (.int p1), .val (.int u)] [(.int u)])) (fun _ k => XS.iloadN X0.here hx rfl (hb hby d2_25) rfl k) ?_
    by_cases ho : u.toInt < 45 ∨ u.toInt > 89
    · refine go (B := s₁.setTop (mkF m 290 #[.val (.int p1), .val (.int u)] [])) (fun _ k => XS.tswOut X0.here hx rfl (pc0 := 26) (pc' := 290) rfl (hb hby d2_26) rfl ho (by decide) (by decide) k) ?_
      refine go (B := s₁.setTop (mkF m 291 #[.val (.int p1), .val (.int u)] [(.int (-1 : Int32))])) (fun _ k => XS.iconst X0.here hx rfl (hb hby d2_290) k) ?_
      refine goRetI X0 hx Bd.returns hlk (hb hby d2_291) ?_ (by decide) (by decide)
      rw [e0]
      exact ⟨by rw [hu, ss_out ho], N0, rfl⟩
    · have hk : (u.toInt - 45).toNat < 45 := by omega
      generalize hk' : (u.toInt - 45).toNat = k at hk
      have h45 : ¬ u.toInt < 45 := fun q => ho (Or.inl q)
      have hk2 : k = 0 ∨ k = 1 ∨ k = 2 ∨ k = 3 ∨ k = 4 ∨ k = 5 ∨ k = 6 ∨ k = 7 ∨ k = 8 ∨ k = 9 ∨ k = 10 ∨ k = 11 ∨ k = 12 ∨ k = 13 ∨ k = 14 ∨ k = 15 ∨ k = 16 ∨ k = 17 ∨ k = 18 ∨ k = 19 ∨ k = 20 ∨ k = 21 ∨ k = 22 ∨ k = 23 ∨ k = 24 ∨ k = 25 ∨ k = 26 ∨ k = 27 ∨ k = 28 ∨ k = 29 ∨ k = 30 ∨ k = 31 ∨ k = 32 ∨ k = 33 ∨ k = 34 ∨ k = 35 ∨ k = 36 ∨ k = 37 ∨ k = 38 ∨ k = 39 ∨ k = 40 ∨ k = 41 ∨ k = 42 ∨ k = 43 ∨ k = 44 := by omega
      rcases hk2 with rfl | rfl | rfl | rfl | rfl | rfl | rfl | rfl | rfl | rfl | rfl | rfl | rfl | rfl | rfl | rfl | rfl | rfl | rfl | rfl | rfl | rfl | rfl | rfl | rfl | rfl | rfl | rfl | rfl | rfl | rfl | rfl | rfl | rfl | rfl | rfl | rfl | rfl | rfl | rfl | rfl | rfl | rfl | rfl | rfl
      · refine go (B := s₁.setTop (mkF m 285 #[.val (.int p1), .val (.int u)] [])) (fun _ k => XS.tswIn X0.here hx rfl (pc0 := 26) (pc' := 285) rfl (hb hby d2_26) rfl ho (o := 259) (by rw [hk']; rfl) (by decide) (by decide) k) ?_
        refine go (B := s₁.setTop (mkF m 287 #[.val (.int p1), .val (.int u)] [(.int (15 : Int32))])) (fun _ k => XS.bipush X0.here hx rfl (hb hby d2_285) k) ?_
        refine go (B := s₁.setTop (mkF m 291 #[.val (.int p1), .val (.int u)] [(.int (15 : Int32))])) (fun _ k => XS.goto X0.here hx rfl (pc0 := 287) (pc' := 291) rfl (hb hby d2_287) (by decide) (by decide) k) ?_
        refine goRetI X0 hx Bd.returns hlk (hb hby d2_291) ?_ (by decide) (by decide)
        rw [e0]
        exact ⟨by rw [hu, ss_at h45 hk' (show ssL.getD 0 (-1) = (15 : Int32) from rfl)], N0, rfl⟩
      · refine go (B := s₁.setTop (mkF m 290 #[.val (.int p1), .val (.int u)] [])) (fun _ k => XS.tswIn X0.here hx rfl (pc0 := 26) (pc' := 290) rfl (hb hby d2_26) rfl ho (o := 264) (by rw [hk']; rfl) (by decide) (by decide) k) ?_
        refine go (B := s₁.setTop (mkF m 291 #[.val (.int p1), .val (.int u)] [(.int (-1 : Int32))])) (fun _ k => XS.iconst X0.here hx rfl (hb hby d2_290) k) ?_
        refine goRetI X0 hx Bd.returns hlk (hb hby d2_291) ?_ (by decide) (by decide)
        rw [e0]
        exact ⟨by rw [hu, ss_at h45 hk' (show ssL.getD 1 (-1) = (-1 : Int32) from rfl)], N0, rfl⟩
      · refine go (B := s₁.setTop (mkF m 290 #[.val (.int p1), .val (.int u)] [])) (fun _ k => XS.tswIn X0.here hx rfl (pc0 := 26) (pc' := 290) rfl (hb hby d2_26) rfl ho (o := 264) (by rw [hk']; rfl) (by decide) (by decide) k) ?_
        refine go (B := s₁.setTop (mkF m 291 #[.val (.int p1), .val (.int u)] [(.int (-1 : Int32))])) (fun _ k => XS.iconst X0.here hx rfl (hb hby d2_290) k) ?_
        refine goRetI X0 hx Bd.returns hlk (hb hby d2_291) ?_ (by decide) (by decide)
        rw [e0]
        exact ⟨by rw [hu, ss_at h45 hk' (show ssL.getD 2 (-1) = (-1 : Int32) from rfl)], N0, rfl⟩
      · refine go (B := s₁.setTop (mkF m 290 #[.val (.int p1), .val (.int u)] [])) (fun _ k => XS.tswIn X0.here hx rfl (pc0 := 26) (pc' := 290) rfl (hb hby d2_26) rfl ho (o := 264) (by rw [hk']; rfl) (by decide) (by decide) k) ?_
        refine go (B := s₁.setTop (mkF m 291 #[.val (.int p1), .val (.int u)] [(.int (-1 : Int32))])) (fun _ k => XS.iconst X0.here hx rfl (hb hby d2_290) k) ?_
        refine goRetI X0 hx Bd.returns hlk (hb hby d2_291) ?_ (by decide) (by decide)
        rw [e0]
        exact ⟨by rw [hu, ss_at h45 hk' (show ssL.getD 3 (-1) = (-1 : Int32) from rfl)], N0, rfl⟩
      · refine go (B := s₁.setTop (mkF m 290 #[.val (.int p1), .val (.int u)] [])) (fun _ k => XS.tswIn X0.here hx rfl (pc0 := 26) (pc' := 290) rfl (hb hby d2_26) rfl ho (o := 264) (by rw [hk']; rfl) (by decide) (by decide) k) ?_
        refine go (B := s₁.setTop (mkF m 291 #[.val (.int p1), .val (.int u)] [(.int (-1 : Int32))])) (fun _ k => XS.iconst X0.here hx rfl (hb hby d2_290) k) ?_
        refine goRetI X0 hx Bd.returns hlk (hb hby d2_291) ?_ (by decide) (by decide)
        rw [e0]
        exact ⟨by rw [hu, ss_at h45 hk' (show ssL.getD 4 (-1) = (-1 : Int32) from rfl)], N0, rfl⟩
      · refine go (B := s₁.setTop (mkF m 290 #[.val (.int p1), .val (.int u)] [])) (fun _ k => XS.tswIn X0.here hx rfl (pc0 := 26) (pc' := 290) rfl (hb hby d2_26) rfl ho (o := 264) (by rw [hk']; rfl) (by decide) (by decide) k) ?_
        refine go (B := s₁.setTop (mkF m 291 #[.val (.int p1), .val (.int u)] [(.int (-1 : Int32))])) (fun _ k => XS.iconst X0.here hx rfl (hb hby d2_290) k) ?_
        refine goRetI X0 hx Bd.returns hlk (hb hby d2_291) ?_ (by decide) (by decide)
        rw [e0]
        exact ⟨by rw [hu, ss_at h45 hk' (show ssL.getD 5 (-1) = (-1 : Int32) from rfl)], N0, rfl⟩
      · refine go (B := s₁.setTop (mkF m 290 #[.val (.int p1), .val (.int u)] [])) (fun _ k => XS.tswIn X0.here hx rfl (pc0 := 26) (pc' := 290) rfl (hb hby d2_26) rfl ho (o := 264) (by rw [hk']; rfl) (by decide) (by decide) k) ?_
        refine go (B := s₁.setTop (mkF m 291 #[.val (.int p1), .val (.int u)] [(.int (-1 : Int32))])) (fun _ k => XS.iconst X0.here hx rfl (hb hby d2_290) k) ?_
        refine goRetI X0 hx Bd.returns hlk (hb hby d2_291) ?_ (by decide) (by decide)
        rw [e0]
        exact ⟨by rw [hu, ss_at h45 hk' (show ssL.getD 6 (-1) = (-1 : Int32) from rfl)], N0, rfl⟩
      · refine go (B := s₁.setTop (mkF m 290 #[.val (.int p1), .val (.int u)] [])) (fun _ k => XS.tswIn X0.here hx rfl (pc0 := 26) (pc' := 290) rfl (hb hby d2_26) rfl ho (o := 264) (by rw [hk']; rfl) (by decide) (by decide) k) ?_
        refine go (B := s₁.setTop (mkF m 291 #[.val (.int p1), .val (.int u)] [(.int (-1 : Int32))])) (fun _ k => XS.iconst X0.here hx rfl (hb hby d2_290) k) ?_
        refine goRetI X0 hx Bd.returns hlk (hb hby d2_291) ?_ (by decide) (by decide)
        rw [e0]
        exact ⟨by rw [hu, ss_at h45 hk' (show ssL.getD 7 (-1) = (-1 : Int32) from rfl)], N0, rfl⟩
      · refine go (B := s₁.setTop (mkF m 290 #[.val (.int p1), .val (.int u)] [])) (fun _ k => XS.tswIn X0.here hx rfl (pc0 := 26) (pc' := 290) rfl (hb hby d2_26) rfl ho (o := 264) (by rw [hk']; rfl) (by decide) (by decide) k) ?_
        refine go (B := s₁.setTop (mkF m 291 #[.val (.int p1), .val (.int u)] [(.int (-1 : Int32))])) (fun _ k => XS.iconst X0.here hx rfl (hb hby d2_290) k) ?_
        refine goRetI X0 hx Bd.returns hlk (hb hby d2_291) ?_ (by decide) (by decide)
        rw [e0]
        exact ⟨by rw [hu, ss_at h45 hk' (show ssL.getD 8 (-1) = (-1 : Int32) from rfl)], N0, rfl⟩
      · refine go (B := s₁.setTop (mkF m 290 #[.val (.int p1), .val (.int u)] [])) (fun _ k => XS.tswIn X0.here hx rfl (pc0 := 26) (pc' := 290) rfl (hb hby d2_26) rfl ho (o := 264) (by rw [hk']; rfl) (by decide) (by decide) k) ?_
        refine go (B := s₁.setTop (mkF m 291 #[.val (.int p1), .val (.int u)] [(.int (-1 : Int32))])) (fun _ k => XS.iconst X0.here hx rfl (hb hby d2_290) k) ?_
        refine goRetI X0 hx Bd.returns hlk (hb hby d2_291) ?_ (by decide) (by decide)
        rw [e0]
        exact ⟨by rw [hu, ss_at h45 hk' (show ssL.getD 9 (-1) = (-1 : Int32) from rfl)], N0, rfl⟩
      · refine go (B := s₁.setTop (mkF m 290 #[.val (.int p1), .val (.int u)] [])) (fun _ k => XS.tswIn X0.here hx rfl (pc0 := 26) (pc' := 290) rfl (hb hby d2_26) rfl ho (o := 264) (by rw [hk']; rfl) (by decide) (by decide) k) ?_
        refine go (B := s₁.setTop (mkF m 291 #[.val (.int p1), .val (.int u)] [(.int (-1 : Int32))])) (fun _ k => XS.iconst X0.here hx rfl (hb hby d2_290) k) ?_
        refine goRetI X0 hx Bd.returns hlk (hb hby d2_291) ?_ (by decide) (by decide)
        rw [e0]
        exact ⟨by rw [hu, ss_at h45 hk' (show ssL.getD 10 (-1) = (-1 : Int32) from rfl)], N0, rfl⟩
      · refine go (B := s₁.setTop (mkF m 290 #[.val (.int p1), .val (.int u)] [])) (fun _ k => XS.tswIn X0.here hx rfl (pc0 := 26) (pc' := 290) rfl (hb hby d2_26) rfl ho (o := 264) (by rw [hk']; rfl) (by decide) (by decide) k) ?_
        refine go (B := s₁.setTop (mkF m 291 #[.val (.int p1), .val (.int u)] [(.int (-1 : Int32))])) (fun _ k => XS.iconst X0.here hx rfl (hb hby d2_290) k) ?_
        refine goRetI X0 hx Bd.returns hlk (hb hby d2_291) ?_ (by decide) (by decide)
        rw [e0]
        exact ⟨by rw [hu, ss_at h45 hk' (show ssL.getD 11 (-1) = (-1 : Int32) from rfl)], N0, rfl⟩
      · refine go (B := s₁.setTop (mkF m 290 #[.val (.int p1), .val (.int u)] [])) (fun _ k => XS.tswIn X0.here hx rfl (pc0 := 26) (pc' := 290) rfl (hb hby d2_26) rfl ho (o := 264) (by rw [hk']; rfl) (by decide) (by decide) k) ?_
        refine go (B := s₁.setTop (mkF m 291 #[.val (.int p1), .val (.int u)] [(.int (-1 : Int32))])) (fun _ k => XS.iconst X0.here hx rfl (hb hby d2_290) k) ?_
        refine goRetI X0 hx Bd.returns hlk (hb hby d2_291) ?_ (by decide) (by decide)
        rw [e0]
        exact ⟨by rw [hu, ss_at h45 hk' (show ssL.getD 12 (-1) = (-1 : Int32) from rfl)], N0, rfl⟩
      · refine go (B := s₁.setTop (mkF m 290 #[.val (.int p1), .val (.int u)] [])) (fun _ k => XS.tswIn X0.here hx rfl (pc0 := 26) (pc' := 290) rfl (hb hby d2_26) rfl ho (o := 264) (by rw [hk']; rfl) (by decide) (by decide) k) ?_
        refine go (B := s₁.setTop (mkF m 291 #[.val (.int p1), .val (.int u)] [(.int (-1 : Int32))])) (fun _ k => XS.iconst X0.here hx rfl (hb hby d2_290) k) ?_
        refine goRetI X0 hx Bd.returns hlk (hb hby d2_291) ?_ (by decide) (by decide)
        rw [e0]
        exact ⟨by rw [hu, ss_at h45 hk' (show ssL.getD 13 (-1) = (-1 : Int32) from rfl)], N0, rfl⟩
      · refine go (B := s₁.setTop (mkF m 290 #[.val (.int p1), .val (.int u)] [])) (fun _ k => XS.tswIn X0.here hx rfl (pc0 := 26) (pc' := 290) rfl (hb hby d2_26) rfl ho (o := 264) (by rw [hk']; rfl) (by decide) (by decide) k) ?_
        refine go (B := s₁.setTop (mkF m 291 #[.val (.int p1), .val (.int u)] [(.int (-1 : Int32))])) (fun _ k => XS.iconst X0.here hx rfl (hb hby d2_290) k) ?_
        refine goRetI X0 hx Bd.returns hlk (hb hby d2_291) ?_ (by decide) (by decide)
        rw [e0]
        exact ⟨by rw [hu, ss_at h45 hk' (show ssL.getD 14 (-1) = (-1 : Int32) from rfl)], N0, rfl⟩
      · refine go (B := s₁.setTop (mkF m 290 #[.val (.int p1), .val (.int u)] [])) (fun _ k => XS.tswIn X0.here hx rfl (pc0 := 26) (pc' := 290) rfl (hb hby d2_26) rfl ho (o := 264) (by rw [hk']; rfl) (by decide) (by decide) k) ?_
        refine go (B := s₁.setTop (mkF m 291 #[.val (.int p1), .val (.int u)] [(.int (-1 : Int32))])) (fun _ k => XS.iconst X0.here hx rfl (hb hby d2_290) k) ?_
        refine goRetI X0 hx Bd.returns hlk (hb hby d2_291) ?_ (by decide) (by decide)
        rw [e0]
        exact ⟨by rw [hu, ss_at h45 hk' (show ssL.getD 15 (-1) = (-1 : Int32) from rfl)], N0, rfl⟩
      · refine go (B := s₁.setTop (mkF m 290 #[.val (.int p1), .val (.int u)] [])) (fun _ k => XS.tswIn X0.here hx rfl (pc0 := 26) (pc' := 290) rfl (hb hby d2_26) rfl ho (o := 264) (by rw [hk']; rfl) (by decide) (by decide) k) ?_
        refine go (B := s₁.setTop (mkF m 291 #[.val (.int p1), .val (.int u)] [(.int (-1 : Int32))])) (fun _ k => XS.iconst X0.here hx rfl (hb hby d2_290) k) ?_
        refine goRetI X0 hx Bd.returns hlk (hb hby d2_291) ?_ (by decide) (by decide)
        rw [e0]
        exact ⟨by rw [hu, ss_at h45 hk' (show ssL.getD 16 (-1) = (-1 : Int32) from rfl)], N0, rfl⟩
      · refine go (B := s₁.setTop (mkF m 290 #[.val (.int p1), .val (.int u)] [])) (fun _ k => XS.tswIn X0.here hx rfl (pc0 := 26) (pc' := 290) rfl (hb hby d2_26) rfl ho (o := 264) (by rw [hk']; rfl) (by decide) (by decide) k) ?_
        refine go (B := s₁.setTop (mkF m 291 #[.val (.int p1), .val (.int u)] [(.int (-1 : Int32))])) (fun _ k => XS.iconst X0.here hx rfl (hb hby d2_290) k) ?_
        refine goRetI X0 hx Bd.returns hlk (hb hby d2_291) ?_ (by decide) (by decide)
        rw [e0]
        exact ⟨by rw [hu, ss_at h45 hk' (show ssL.getD 17 (-1) = (-1 : Int32) from rfl)], N0, rfl⟩
      · refine go (B := s₁.setTop (mkF m 285 #[.val (.int p1), .val (.int u)] [])) (fun _ k => XS.tswIn X0.here hx rfl (pc0 := 26) (pc' := 285) rfl (hb hby d2_26) rfl ho (o := 259) (by rw [hk']; rfl) (by decide) (by decide) k) ?_
        refine go (B := s₁.setTop (mkF m 287 #[.val (.int p1), .val (.int u)] [(.int (15 : Int32))])) (fun _ k => XS.bipush X0.here hx rfl (hb hby d2_285) k) ?_
        refine go (B := s₁.setTop (mkF m 291 #[.val (.int p1), .val (.int u)] [(.int (15 : Int32))])) (fun _ k => XS.goto X0.here hx rfl (pc0 := 287) (pc' := 291) rfl (hb hby d2_287) (by decide) (by decide) k) ?_
        refine goRetI X0 hx Bd.returns hlk (hb hby d2_291) ?_ (by decide) (by decide)
        rw [e0]
        exact ⟨by rw [hu, ss_at h45 hk' (show ssL.getD 18 (-1) = (15 : Int32) from rfl)], N0, rfl⟩
      · refine go (B := s₁.setTop (mkF m 290 #[.val (.int p1), .val (.int u)] [])) (fun _ k => XS.tswIn X0.here hx rfl (pc0 := 26) (pc' := 290) rfl (hb hby d2_26) rfl ho (o := 264) (by rw [hk']; rfl) (by decide) (by decide) k) ?_
        refine go (B := s₁.setTop (mkF m 291 #[.val (.int p1), .val (.int u)] [(.int (-1 : Int32))])) (fun _ k => XS.iconst X0.here hx rfl (hb hby d2_290) k) ?_
        refine goRetI X0 hx Bd.returns hlk (hb hby d2_291) ?_ (by decide) (by decide)
        rw [e0]
        exact ⟨by rw [hu, ss_at h45 hk' (show ssL.getD 19 (-1) = (-1 : Int32) from rfl)], N0, rfl⟩
      · refine go (B := s₁.setTop (mkF m 220 #[.val (.int p1), .val (.int u)] [])) (fun _ k => XS.tswIn X0.here hx rfl (pc0 := 26) (pc' := 220) rfl (hb hby d2_26) rfl ho (o := 194) (by rw [hk']; rfl) (by decide) (by decide) k) ?_
        refine go (B := s₁.setTop (mkF m 221 #[.val (.int p1), .val (.int u)] [(.int (1 : Int32))])) (fun _ k => XS.iconst X0.here hx rfl (hb hby d2_220) k) ?_
        refine go (B := s₁.setTop (mkF m 291 #[.val (.int p1), .val (.int u)] [(.int (1 : Int32))])) (fun _ k => XS.goto X0.here hx rfl (pc0 := 221) (pc' := 291) rfl (hb hby d2_221) (by decide) (by decide) k) ?_
        refine goRetI X0 hx Bd.returns hlk (hb hby d2_291) ?_ (by decide) (by decide)
        rw [e0]
        exact ⟨by rw [hu, ss_at h45 hk' (show ssL.getD 20 (-1) = (1 : Int32) from rfl)], N0, rfl⟩
      · refine go (B := s₁.setTop (mkF m 265 #[.val (.int p1), .val (.int u)] [])) (fun _ k => XS.tswIn X0.here hx rfl (pc0 := 26) (pc' := 265) rfl (hb hby d2_26) rfl ho (o := 239) (by rw [hk']; rfl) (by decide) (by decide) k) ?_
        refine go (B := s₁.setTop (mkF m 267 #[.val (.int p1), .val (.int u)] [(.int (14 : Int32))])) (fun _ k => XS.bipush X0.here hx rfl (hb hby d2_265) k) ?_
        refine go (B := s₁.setTop (mkF m 291 #[.val (.int p1), .val (.int u)] [(.int (14 : Int32))])) (fun _ k => XS.goto X0.here hx rfl (pc0 := 267) (pc' := 291) rfl (hb hby d2_267) (by decide) (by decide) k) ?_
        refine goRetI X0 hx Bd.returns hlk (hb hby d2_291) ?_ (by decide) (by decide)
        rw [e0]
        exact ⟨by rw [hu, ss_at h45 hk' (show ssL.getD 21 (-1) = (14 : Int32) from rfl)], N0, rfl⟩
      · refine go (B := s₁.setTop (mkF m 224 #[.val (.int p1), .val (.int u)] [])) (fun _ k => XS.tswIn X0.here hx rfl (pc0 := 26) (pc' := 224) rfl (hb hby d2_26) rfl ho (o := 198) (by rw [hk']; rfl) (by decide) (by decide) k) ?_
        refine go (B := s₁.setTop (mkF m 225 #[.val (.int p1), .val (.int u)] [(.int (2 : Int32))])) (fun _ k => XS.iconst X0.here hx rfl (hb hby d2_224) k) ?_
        refine go (B := s₁.setTop (mkF m 291 #[.val (.int p1), .val (.int u)] [(.int (2 : Int32))])) (fun _ k => XS.goto X0.here hx rfl (pc0 := 225) (pc' := 291) rfl (hb hby d2_225) (by decide) (by decide) k) ?_
        refine goRetI X0 hx Bd.returns hlk (hb hby d2_291) ?_ (by decide) (by decide)
        rw [e0]
        exact ⟨by rw [hu, ss_at h45 hk' (show ssL.getD 22 (-1) = (2 : Int32) from rfl)], N0, rfl⟩
      · refine go (B := s₁.setTop (mkF m 270 #[.val (.int p1), .val (.int u)] [])) (fun _ k => XS.tswIn X0.here hx rfl (pc0 := 26) (pc' := 270) rfl (hb hby d2_26) rfl ho (o := 244) (by rw [hk']; rfl) (by decide) (by decide) k) ?_
        refine go (B := s₁.setTop (mkF m 272 #[.val (.int p1), .val (.int u)] [(.int (13 : Int32))])) (fun _ k => XS.bipush X0.here hx rfl (hb hby d2_270) k) ?_
        refine go (B := s₁.setTop (mkF m 291 #[.val (.int p1), .val (.int u)] [(.int (13 : Int32))])) (fun _ k => XS.goto X0.here hx rfl (pc0 := 272) (pc' := 291) rfl (hb hby d2_272) (by decide) (by decide) k) ?_
        refine goRetI X0 hx Bd.returns hlk (hb hby d2_291) ?_ (by decide) (by decide)
        rw [e0]
        exact ⟨by rw [hu, ss_at h45 hk' (show ssL.getD 23 (-1) = (13 : Int32) from rfl)], N0, rfl⟩
      · refine go (B := s₁.setTop (mkF m 290 #[.val (.int p1), .val (.int u)] [])) (fun _ k => XS.tswIn X0.here hx rfl (pc0 := 26) (pc' := 290) rfl (hb hby d2_26) rfl ho (o := 264) (by rw [hk']; rfl) (by decide) (by decide) k) ?_
        refine go (B := s₁.setTop (mkF m 291 #[.val (.int p1), .val (.int u)] [(.int (-1 : Int32))])) (fun _ k => XS.iconst X0.here hx rfl (hb hby d2_290) k) ?_
        refine goRetI X0 hx Bd.returns hlk (hb hby d2_291) ?_ (by decide) (by decide)
        rw [e0]
        exact ⟨by rw [hu, ss_at h45 hk' (show ssL.getD 24 (-1) = (-1 : Int32) from rfl)], N0, rfl⟩
      · refine go (B := s₁.setTop (mkF m 290 #[.val (.int p1), .val (.int u)] [])) (fun _ k => XS.tswIn X0.here hx rfl (pc0 := 26) (pc' := 290) rfl (hb hby d2_26) rfl ho (o := 264) (by rw [hk']; rfl) (by decide) (by decide) k) ?_
        refine go (B := s₁.setTop (mkF m 291 #[.val (.int p1), .val (.int u)] [(.int (-1 : Int32))])) (fun _ k => XS.iconst X0.here hx rfl (hb hby d2_290) k) ?_
        refine goRetI X0 hx Bd.returns hlk (hb hby d2_291) ?_ (by decide) (by decide)
        rw [e0]
        exact ⟨by rw [hu, ss_at h45 hk' (show ssL.getD 25 (-1) = (-1 : Int32) from rfl)], N0, rfl⟩
      · refine go (B := s₁.setTop (mkF m 228 #[.val (.int p1), .val (.int u)] [])) (fun _ k => XS.tswIn X0.here hx rfl (pc0 := 26) (pc' := 228) rfl (hb hby d2_26) rfl ho (o := 202) (by rw [hk']; rfl) (by decide) (by decide) k) ?_
        refine go (B := s₁.setTop (mkF m 229 #[.val (.int p1), .val (.int u)] [(.int (4 : Int32))])) (fun _ k => XS.iconst X0.here hx rfl (hb hby d2_228) k) ?_
        refine go (B := s₁.setTop (mkF m 291 #[.val (.int p1), .val (.int u)] [(.int (4 : Int32))])) (fun _ k => XS.goto X0.here hx rfl (pc0 := 229) (pc' := 291) rfl (hb hby d2_229) (by decide) (by decide) k) ?_
        refine goRetI X0 hx Bd.returns hlk (hb hby d2_291) ?_ (by decide) (by decide)
        rw [e0]
        exact ⟨by rw [hu, ss_at h45 hk' (show ssL.getD 26 (-1) = (4 : Int32) from rfl)], N0, rfl⟩
      · refine go (B := s₁.setTop (mkF m 275 #[.val (.int p1), .val (.int u)] [])) (fun _ k => XS.tswIn X0.here hx rfl (pc0 := 26) (pc' := 275) rfl (hb hby d2_26) rfl ho (o := 249) (by rw [hk']; rfl) (by decide) (by decide) k) ?_
        refine go (B := s₁.setTop (mkF m 277 #[.val (.int p1), .val (.int u)] [(.int (11 : Int32))])) (fun _ k => XS.bipush X0.here hx rfl (hb hby d2_275) k) ?_
        refine go (B := s₁.setTop (mkF m 291 #[.val (.int p1), .val (.int u)] [(.int (11 : Int32))])) (fun _ k => XS.goto X0.here hx rfl (pc0 := 277) (pc' := 291) rfl (hb hby d2_277) (by decide) (by decide) k) ?_
        refine goRetI X0 hx Bd.returns hlk (hb hby d2_291) ?_ (by decide) (by decide)
        rw [e0]
        exact ⟨by rw [hu, ss_at h45 hk' (show ssL.getD 27 (-1) = (11 : Int32) from rfl)], N0, rfl⟩
      · refine go (B := s₁.setTop (mkF m 290 #[.val (.int p1), .val (.int u)] [])) (fun _ k => XS.tswIn X0.here hx rfl (pc0 := 26) (pc' := 290) rfl (hb hby d2_26) rfl ho (o := 264) (by rw [hk']; rfl) (by decide) (by decide) k) ?_
        refine go (B := s₁.setTop (mkF m 291 #[.val (.int p1), .val (.int u)] [(.int (-1 : Int32))])) (fun _ k => XS.iconst X0.here hx rfl (hb hby d2_290) k) ?_
        refine goRetI X0 hx Bd.returns hlk (hb hby d2_291) ?_ (by decide) (by decide)
        rw [e0]
        exact ⟨by rw [hu, ss_at h45 hk' (show ssL.getD 28 (-1) = (-1 : Int32) from rfl)], N0, rfl⟩
      · refine go (B := s₁.setTop (mkF m 290 #[.val (.int p1), .val (.int u)] [])) (fun _ k => XS.tswIn X0.here hx rfl (pc0 := 26) (pc' := 290) rfl (hb hby d2_26) rfl ho (o := 264) (by rw [hk']; rfl) (by decide) (by decide) k) ?_
        refine go (B := s₁.setTop (mkF m 291 #[.val (.int p1), .val (.int u)] [(.int (-1 : Int32))])) (fun _ k => XS.iconst X0.here hx rfl (hb hby d2_290) k) ?_
        refine goRetI X0 hx Bd.returns hlk (hb hby d2_291) ?_ (by decide) (by decide)
        rw [e0]
        exact ⟨by rw [hu, ss_at h45 hk' (show ssL.getD 29 (-1) = (-1 : Int32) from rfl)], N0, rfl⟩
      · refine go (B := s₁.setTop (mkF m 246 #[.val (.int p1), .val (.int u)] [])) (fun _ k => XS.tswIn X0.here hx rfl (pc0 := 26) (pc' := 246) rfl (hb hby d2_26) rfl ho (o := 220) (by rw [hk']; rfl) (by decide) (by decide) k) ?_
        refine go (B := s₁.setTop (mkF m 248 #[.val (.int p1), .val (.int u)] [(.int (12 : Int32))])) (fun _ k => XS.bipush X0.here hx rfl (hb hby d2_246) k) ?_
        refine go (B := s₁.setTop (mkF m 291 #[.val (.int p1), .val (.int u)] [(.int (12 : Int32))])) (fun _ k => XS.goto X0.here hx rfl (pc0 := 248) (pc' := 291) rfl (hb hby d2_248) (by decide) (by decide) k) ?_
        refine goRetI X0 hx Bd.returns hlk (hb hby d2_291) ?_ (by decide) (by decide)
        rw [e0]
        exact ⟨by rw [hu, ss_at h45 hk' (show ssL.getD 30 (-1) = (12 : Int32) from rfl)], N0, rfl⟩
      · refine go (B := s₁.setTop (mkF m 290 #[.val (.int p1), .val (.int u)] [])) (fun _ k => XS.tswIn X0.here hx rfl (pc0 := 26) (pc' := 290) rfl (hb hby d2_26) rfl ho (o := 264) (by rw [hk']; rfl) (by decide) (by decide) k) ?_
        refine go (B := s₁.setTop (mkF m 291 #[.val (.int p1), .val (.int u)] [(.int (-1 : Int32))])) (fun _ k => XS.iconst X0.here hx rfl (hb hby d2_290) k) ?_
        refine goRetI X0 hx Bd.returns hlk (hb hby d2_291) ?_ (by decide) (by decide)
        rw [e0]
        exact ⟨by rw [hu, ss_at h45 hk' (show ssL.getD 31 (-1) = (-1 : Int32) from rfl)], N0, rfl⟩
      · refine go (B := s₁.setTop (mkF m 251 #[.val (.int p1), .val (.int u)] [])) (fun _ k => XS.tswIn X0.here hx rfl (pc0 := 26) (pc' := 251) rfl (hb hby d2_26) rfl ho (o := 225) (by rw [hk']; rfl) (by decide) (by decide) k) ?_
        refine go (B := s₁.setTop (mkF m 252 #[.val (.int p1), .val (.int u)] [(.int (3 : Int32))])) (fun _ k => XS.iconst X0.here hx rfl (hb hby d2_251) k) ?_
        refine go (B := s₁.setTop (mkF m 291 #[.val (.int p1), .val (.int u)] [(.int (3 : Int32))])) (fun _ k => XS.goto X0.here hx rfl (pc0 := 252) (pc' := 291) rfl (hb hby d2_252) (by decide) (by decide) k) ?_
        refine goRetI X0 hx Bd.returns hlk (hb hby d2_291) ?_ (by decide) (by decide)
        rw [e0]
        exact ⟨by rw [hu, ss_at h45 hk' (show ssL.getD 32 (-1) = (3 : Int32) from rfl)], N0, rfl⟩
      · refine go (B := s₁.setTop (mkF m 285 #[.val (.int p1), .val (.int u)] [])) (fun _ k => XS.tswIn X0.here hx rfl (pc0 := 26) (pc' := 285) rfl (hb hby d2_26) rfl ho (o := 259) (by rw [hk']; rfl) (by decide) (by decide) k) ?_
        refine go (B := s₁.setTop (mkF m 287 #[.val (.int p1), .val (.int u)] [(.int (15 : Int32))])) (fun _ k => XS.bipush X0.here hx rfl (hb hby d2_285) k) ?_
        refine go (B := s₁.setTop (mkF m 291 #[.val (.int p1), .val (.int u)] [(.int (15 : Int32))])) (fun _ k => XS.goto X0.here hx rfl (pc0 := 287) (pc' := 291) rfl (hb hby d2_287) (by decide) (by decide) k) ?_
        refine goRetI X0 hx Bd.returns hlk (hb hby d2_291) ?_ (by decide) (by decide)
        rw [e0]
        exact ⟨by rw [hu, ss_at h45 hk' (show ssL.getD 33 (-1) = (15 : Int32) from rfl)], N0, rfl⟩
      · refine go (B := s₁.setTop (mkF m 290 #[.val (.int p1), .val (.int u)] [])) (fun _ k => XS.tswIn X0.here hx rfl (pc0 := 26) (pc' := 290) rfl (hb hby d2_26) rfl ho (o := 264) (by rw [hk']; rfl) (by decide) (by decide) k) ?_
        refine go (B := s₁.setTop (mkF m 291 #[.val (.int p1), .val (.int u)] [(.int (-1 : Int32))])) (fun _ k => XS.iconst X0.here hx rfl (hb hby d2_290) k) ?_
        refine goRetI X0 hx Bd.returns hlk (hb hby d2_291) ?_ (by decide) (by decide)
        rw [e0]
        exact ⟨by rw [hu, ss_at h45 hk' (show ssL.getD 34 (-1) = (-1 : Int32) from rfl)], N0, rfl⟩
      · refine go (B := s₁.setTop (mkF m 290 #[.val (.int p1), .val (.int u)] [])) (fun _ k => XS.tswIn X0.here hx rfl (pc0 := 26) (pc' := 290) rfl (hb hby d2_26) rfl ho (o := 264) (by rw [hk']; rfl) (by decide) (by decide) k) ?_
        refine go (B := s₁.setTop (mkF m 291 #[.val (.int p1), .val (.int u)] [(.int (-1 : Int32))])) (fun _ k => XS.iconst X0.here hx rfl (hb hby d2_290) k) ?_
        refine goRetI X0 hx Bd.returns hlk (hb hby d2_291) ?_ (by decide) (by decide)
        rw [e0]
        exact ⟨by rw [hu, ss_at h45 hk' (show ssL.getD 35 (-1) = (-1 : Int32) from rfl)], N0, rfl⟩
      · refine go (B := s₁.setTop (mkF m 290 #[.val (.int p1), .val (.int u)] [])) (fun _ k => XS.tswIn X0.here hx rfl (pc0 := 26) (pc' := 290) rfl (hb hby d2_26) rfl ho (o := 264) (by rw [hk']; rfl) (by decide) (by decide) k) ?_
        refine go (B := s₁.setTop (mkF m 291 #[.val (.int p1), .val (.int u)] [(.int (-1 : Int32))])) (fun _ k => XS.iconst X0.here hx rfl (hb hby d2_290) k) ?_
        refine goRetI X0 hx Bd.returns hlk (hb hby d2_291) ?_ (by decide) (by decide)
        rw [e0]
        exact ⟨by rw [hu, ss_at h45 hk' (show ssL.getD 36 (-1) = (-1 : Int32) from rfl)], N0, rfl⟩
      · refine go (B := s₁.setTop (mkF m 237 #[.val (.int p1), .val (.int u)] [])) (fun _ k => XS.tswIn X0.here hx rfl (pc0 := 26) (pc' := 237) rfl (hb hby d2_26) rfl ho (o := 211) (by rw [hk']; rfl) (by decide) (by decide) k) ?_
        refine go (B := s₁.setTop (mkF m 238 #[.val (.int p1), .val (.int u)] [(.int (5 : Int32))])) (fun _ k => XS.iconst X0.here hx rfl (hb hby d2_237) k) ?_
        refine go (B := s₁.setTop (mkF m 291 #[.val (.int p1), .val (.int u)] [(.int (5 : Int32))])) (fun _ k => XS.goto X0.here hx rfl (pc0 := 238) (pc' := 291) rfl (hb hby d2_238) (by decide) (by decide) k) ?_
        refine goRetI X0 hx Bd.returns hlk (hb hby d2_291) ?_ (by decide) (by decide)
        rw [e0]
        exact ⟨by rw [hu, ss_at h45 hk' (show ssL.getD 37 (-1) = (5 : Int32) from rfl)], N0, rfl⟩
      · refine go (B := s₁.setTop (mkF m 255 #[.val (.int p1), .val (.int u)] [])) (fun _ k => XS.tswIn X0.here hx rfl (pc0 := 26) (pc' := 255) rfl (hb hby d2_26) rfl ho (o := 229) (by rw [hk']; rfl) (by decide) (by decide) k) ?_
        refine go (B := s₁.setTop (mkF m 257 #[.val (.int p1), .val (.int u)] [(.int (6 : Int32))])) (fun _ k => XS.bipush X0.here hx rfl (hb hby d2_255) k) ?_
        refine go (B := s₁.setTop (mkF m 291 #[.val (.int p1), .val (.int u)] [(.int (6 : Int32))])) (fun _ k => XS.goto X0.here hx rfl (pc0 := 257) (pc' := 291) rfl (hb hby d2_257) (by decide) (by decide) k) ?_
        refine goRetI X0 hx Bd.returns hlk (hb hby d2_291) ?_ (by decide) (by decide)
        rw [e0]
        exact ⟨by rw [hu, ss_at h45 hk' (show ssL.getD 38 (-1) = (6 : Int32) from rfl)], N0, rfl⟩
      · refine go (B := s₁.setTop (mkF m 232 #[.val (.int p1), .val (.int u)] [])) (fun _ k => XS.tswIn X0.here hx rfl (pc0 := 26) (pc' := 232) rfl (hb hby d2_26) rfl ho (o := 206) (by rw [hk']; rfl) (by decide) (by decide) k) ?_
        refine go (B := s₁.setTop (mkF m 234 #[.val (.int p1), .val (.int u)] [(.int (8 : Int32))])) (fun _ k => XS.bipush X0.here hx rfl (hb hby d2_232) k) ?_
        refine go (B := s₁.setTop (mkF m 291 #[.val (.int p1), .val (.int u)] [(.int (8 : Int32))])) (fun _ k => XS.goto X0.here hx rfl (pc0 := 234) (pc' := 291) rfl (hb hby d2_234) (by decide) (by decide) k) ?_
        refine goRetI X0 hx Bd.returns hlk (hb hby d2_291) ?_ (by decide) (by decide)
        rw [e0]
        exact ⟨by rw [hu, ss_at h45 hk' (show ssL.getD 39 (-1) = (8 : Int32) from rfl)], N0, rfl⟩
      · refine go (B := s₁.setTop (mkF m 290 #[.val (.int p1), .val (.int u)] [])) (fun _ k => XS.tswIn X0.here hx rfl (pc0 := 26) (pc' := 290) rfl (hb hby d2_26) rfl ho (o := 264) (by rw [hk']; rfl) (by decide) (by decide) k) ?_
        refine go (B := s₁.setTop (mkF m 291 #[.val (.int p1), .val (.int u)] [(.int (-1 : Int32))])) (fun _ k => XS.iconst X0.here hx rfl (hb hby d2_290) k) ?_
        refine goRetI X0 hx Bd.returns hlk (hb hby d2_291) ?_ (by decide) (by decide)
        rw [e0]
        exact ⟨by rw [hu, ss_at h45 hk' (show ssL.getD 40 (-1) = (-1 : Int32) from rfl)], N0, rfl⟩
      · refine go (B := s₁.setTop (mkF m 280 #[.val (.int p1), .val (.int u)] [])) (fun _ k => XS.tswIn X0.here hx rfl (pc0 := 26) (pc' := 280) rfl (hb hby d2_26) rfl ho (o := 254) (by rw [hk']; rfl) (by decide) (by decide) k) ?_
        refine go (B := s₁.setTop (mkF m 282 #[.val (.int p1), .val (.int u)] [(.int (7 : Int32))])) (fun _ k => XS.bipush X0.here hx rfl (hb hby d2_280) k) ?_
        refine go (B := s₁.setTop (mkF m 291 #[.val (.int p1), .val (.int u)] [(.int (7 : Int32))])) (fun _ k => XS.goto X0.here hx rfl (pc0 := 282) (pc' := 291) rfl (hb hby d2_282) (by decide) (by decide) k) ?_
        refine goRetI X0 hx Bd.returns hlk (hb hby d2_291) ?_ (by decide) (by decide)
        rw [e0]
        exact ⟨by rw [hu, ss_at h45 hk' (show ssL.getD 41 (-1) = (7 : Int32) from rfl)], N0, rfl⟩
      · refine go (B := s₁.setTop (mkF m 260 #[.val (.int p1), .val (.int u)] [])) (fun _ k => XS.tswIn X0.here hx rfl (pc0 := 26) (pc' := 260) rfl (hb hby d2_26) rfl ho (o := 234) (by rw [hk']; rfl) (by decide) (by decide) k) ?_
        refine go (B := s₁.setTop (mkF m 262 #[.val (.int p1), .val (.int u)] [(.int (9 : Int32))])) (fun _ k => XS.bipush X0.here hx rfl (hb hby d2_260) k) ?_
        refine go (B := s₁.setTop (mkF m 291 #[.val (.int p1), .val (.int u)] [(.int (9 : Int32))])) (fun _ k => XS.goto X0.here hx rfl (pc0 := 262) (pc' := 291) rfl (hb hby d2_262) (by decide) (by decide) k) ?_
        refine goRetI X0 hx Bd.returns hlk (hb hby d2_291) ?_ (by decide) (by decide)
        rw [e0]
        exact ⟨by rw [hu, ss_at h45 hk' (show ssL.getD 42 (-1) = (9 : Int32) from rfl)], N0, rfl⟩
      · refine go (B := s₁.setTop (mkF m 290 #[.val (.int p1), .val (.int u)] [])) (fun _ k => XS.tswIn X0.here hx rfl (pc0 := 26) (pc' := 290) rfl (hb hby d2_26) rfl ho (o := 264) (by rw [hk']; rfl) (by decide) (by decide) k) ?_
        refine go (B := s₁.setTop (mkF m 291 #[.val (.int p1), .val (.int u)] [(.int (-1 : Int32))])) (fun _ k => XS.iconst X0.here hx rfl (hb hby d2_290) k) ?_
        refine goRetI X0 hx Bd.returns hlk (hb hby d2_291) ?_ (by decide) (by decide)
        rw [e0]
        exact ⟨by rw [hu, ss_at h45 hk' (show ssL.getD 43 (-1) = (-1 : Int32) from rfl)], N0, rfl⟩
      · refine go (B := s₁.setTop (mkF m 241 #[.val (.int p1), .val (.int u)] [])) (fun _ k => XS.tswIn X0.here hx rfl (pc0 := 26) (pc' := 241) rfl (hb hby d2_26) rfl ho (o := 215) (by rw [hk']; rfl) (by decide) (by decide) k) ?_
        refine go (B := s₁.setTop (mkF m 243 #[.val (.int p1), .val (.int u)] [(.int (10 : Int32))])) (fun _ k => XS.bipush X0.here hx rfl (hb hby d2_241) k) ?_
        refine go (B := s₁.setTop (mkF m 291 #[.val (.int p1), .val (.int u)] [(.int (10 : Int32))])) (fun _ k => XS.goto X0.here hx rfl (pc0 := 243) (pc' := 291) rfl (hb hby d2_243) (by decide) (by decide) k) ?_
        refine goRetI X0 hx Bd.returns hlk (hb hby d2_291) ?_ (by decide) (by decide)
        rw [e0]
        exact ⟨by rw [hu, ss_at h45 hk' (show ssL.getD 44 (-1) = (10 : Int32) from rfl)], N0, rfl⟩
  refine go (B := s₁.setTop (mkF m 1 #[.val (.int p1), .unset] [(.int p1)])) (fun _ k => XS.iloadN X0.here hx rfl (hb hby d2_0) rfl k) ?_
  refine go (B := s₁.setTop (mkF m 3 #[.val (.int p1), .unset] [(.int (97 : Int32)), (.int p1)])) (fun _ k => XS.bipush X0.here hx rfl (hb hby d2_1) k) ?_
  by_cases hc3 : p1 < (97 : Int32)
  · refine go (B := s₁.setTop (mkF m 23 #[.val (.int p1), .unset] [])) (fun _ k => XS.icmpYes X0.here hx rfl (pc0 := 3) (pc' := 23) rfl (hb hby d2_3) rfl (tlt hc3).1 (by decide) (by decide) k) ?_
    refine go (B := s₁.setTop (mkF m 24 #[.val (.int p1), .unset] [(.int p1)])) (fun _ k => XS.iloadN X0.here hx rfl (hb hby d2_23) rfl k) ?_
    refine go (B := s₁.setTop (mkF m 25 #[.val (.int p1), .val (.int p1)] [])) (fun _ k => XS.istoreN X0.here hx rfl (hb hby d2_24) rfl (l' := #[.val (.int p1), .val (.int p1)]) rfl k) ?_
    exact tl25 _ (by unfold fSS nrm; rw [if_neg (by simp only [Int32.lt_iff_toInt_lt, Int64.lt_iff_toInt_lt, ← Int32.toInt_inj, ← Int64.toInt_inj, Int32.reduceToInt, Int64.reduceToInt] at hc3; omega)])
  · refine go (B := s₁.setTop (mkF m 6 #[.val (.int p1), .unset] [])) (fun _ k => XS.icmpNo X0.here hx rfl (hb hby d2_3) rfl (flt hc3).1 k) ?_
    refine go (B := s₁.setTop (mkF m 7 #[.val (.int p1), .unset] [(.int p1)])) (fun _ k => XS.iloadN X0.here hx rfl (hb hby d2_6) rfl k) ?_
    refine go (B := s₁.setTop (mkF m 9 #[.val (.int p1), .unset] [(.int (122 : Int32)), (.int p1)])) (fun _ k => XS.bipush X0.here hx rfl (hb hby d2_7) k) ?_
    by_cases hc9 : (122 : Int32) < p1
    · refine go (B := s₁.setTop (mkF m 23 #[.val (.int p1), .unset] [])) (fun _ k => XS.icmpYes X0.here hx rfl (pc0 := 9) (pc' := 23) rfl (hb hby d2_9) rfl (tlt hc9).2.2.1 (by decide) (by decide) k) ?_
      refine go (B := s₁.setTop (mkF m 24 #[.val (.int p1), .unset] [(.int p1)])) (fun _ k => XS.iloadN X0.here hx rfl (hb hby d2_23) rfl k) ?_
      refine go (B := s₁.setTop (mkF m 25 #[.val (.int p1), .val (.int p1)] [])) (fun _ k => XS.istoreN X0.here hx rfl (hb hby d2_24) rfl (l' := #[.val (.int p1), .val (.int p1)]) rfl k) ?_
      exact tl25 _ (by unfold fSS nrm; rw [if_neg (by simp only [Int32.lt_iff_toInt_lt, Int64.lt_iff_toInt_lt, ← Int32.toInt_inj, ← Int64.toInt_inj, Int32.reduceToInt, Int64.reduceToInt] at hc3 hc9; omega)])
    · refine go (B := s₁.setTop (mkF m 12 #[.val (.int p1), .unset] [])) (fun _ k => XS.icmpNo X0.here hx rfl (hb hby d2_9) rfl (flt hc9).2.2.1 k) ?_
      refine go (B := s₁.setTop (mkF m 13 #[.val (.int p1), .unset] [(.int p1)])) (fun _ k => XS.iloadN X0.here hx rfl (hb hby d2_12) rfl k) ?_
      refine go (B := s₁.setTop (mkF m 15 #[.val (.int p1), .unset] [(.int (97 : Int32)), (.int p1)])) (fun _ k => XS.bipush X0.here hx rfl (hb hby d2_13) k) ?_
      refine go (B := s₁.setTop (mkF m 16 #[.val (.int p1), .unset] [(.int (p1 - (97 : Int32)))])) (fun _ k => XS.isub X0.here hx rfl (hb hby d2_15) rfl k) ?_
      refine go (B := s₁.setTop (mkF m 18 #[.val (.int p1), .unset] [(.int (65 : Int32)), (.int (p1 - (97 : Int32)))])) (fun _ k => XS.bipush X0.here hx rfl (hb hby d2_16) k) ?_
      refine go (B := s₁.setTop (mkF m 19 #[.val (.int p1), .unset] [(.int ((p1 - (97 : Int32)) + (65 : Int32)))])) (fun _ k => XS.iadd X0.here hx rfl (hb hby d2_18) rfl k) ?_
      refine go (B := s₁.setTop (mkF m 20 #[.val (.int p1), .unset] [(.int (((p1 - (97 : Int32)) + (65 : Int32)).toUInt32.toUInt16.toUInt32.toInt32))])) (fun _ k => XS.i2c X0.here hx rfl (hb hby d2_19) rfl k) ?_
      refine go (B := s₁.setTop (mkF m 24 #[.val (.int p1), .unset] [(.int (((p1 - (97 : Int32)) + (65 : Int32)).toUInt32.toUInt16.toUInt32.toInt32))])) (fun _ k => XS.goto X0.here hx rfl (pc0 := 20) (pc' := 24) rfl (hb hby d2_20) (by decide) (by decide) k) ?_
      refine go (B := s₁.setTop (mkF m 25 #[.val (.int p1), .val (.int (((p1 - (97 : Int32)) + (65 : Int32)).toUInt32.toUInt16.toUInt32.toInt32))] [])) (fun _ k => XS.istoreN X0.here hx rfl (hb hby d2_24) rfl (l' := #[.val (.int p1), .val (.int (((p1 - (97 : Int32)) + (65 : Int32)).toUInt32.toUInt16.toUInt32.toInt32))]) rfl k) ?_
      exact tl25 _ (by unfold fSS nrm; rw [if_pos (by simp only [Int32.lt_iff_toInt_lt, Int64.lt_iff_toInt_lt, ← Int32.toInt_inj, ← Int64.toInt_inj, Int32.reduceToInt, Int64.reduceToInt] at hc3 hc9; omega)])
theorem ef_rm0 (m : MethodId) (p1 : Int32) (p2 : Int32) : entryFrame m #[(.int p1), (.int p2)] maxLocals = mkF m 0 #[.val (.int p1), .val (.int p2), .unset, .unset, .unset, .unset] [] := by first | (simp [entryFrame, mkF, argsToLocals, Value.category, maxLocals]; done) | rfl
def Q0 (Z : State) (p1 : Int32) (p2 : Int32) (h0 : Heap) (n0 : Nat) (v : Option Value) (h : Heap) (L : List Loc) : Prop := v = some (.int 1) ∧ Fr n0 L
theorem pd____I : parseMethodDescriptor "()[I" = some ⟨[], some (.array .int)⟩ := by decide +kernel
theorem pd__C_I : parseMethodDescriptor "(C)I" = some ⟨[.char], some .int⟩ := by decide +kernel
set_option maxRecDepth 65536 in
set_option maxHeartbeats 40000000 in
theorem rm0 (l : Launch) (Z : State) (a0 : Array Value) (hw : ∀ d ∈ tables_1, d.before a0 Z = true) (ws : List Jvm.Cond) (p1 : Int32) (p2 : Int32) (h0 : Heap) (n0 : Nat) (Z0 : n0 ≤ h0.size) :
    MetFree l x (head1 (Jvm.Cond.code x code maxLocals ret :: ws) room_1) (fun a U => a = #[(.int p1), (.int p2)] ∧ Z.Warmed39 U.vm ∧ U.heap = h0) (fun _ _ _ _ _ => True) (fun _ U o U' => ∃ v L, o = .returned v ∧ Q0 Z p1 p2 h0 n0 v U'.heap L ∧ FrameEnd U o U' L room_1.cells room_1.slots) := by
  refine MetFree.of_bodySF (plainFor_of_name pn_com_example_cladestream_cladestream_AlignmentStateSetPinLaw) hisR ?_
  intro p e s m args below meth c s₁ Bd hml0 hP hK
  obtain ⟨rfl, hZ, hh⟩ := hP
  have hx := Bd.exec
  have hby := Bd.bytes
  have hml : c.maxLocals = 6 := hml0
  have hown : s.vm.findClass "com/example/cladestream/cladestream/AlignmentStateSetPinLaw" = some m.cls := findClass_of_methodNamed Bd.named
  have hnm := (name_of_methodNamed Bd.named Bd.method).1
  have hlk := Bd.notSynchronized
  have X0 : Stand p l e room_1 s m #[(.int p1), (.int p2)] below meth c s₁ [] 0 0 := Stand.of_body Bd
  have e0 : s₁.heap = h0 := by rw [← hh, Bd.state]; rfl
  have N0 := Fr.nil n0
  show Go p.tables e below s room_1.cells room_1.slots (Q0 Z p1 p2 h0 n0) _
  refine go (fun t k => castTop (ef_rm0 m p1 p2) k) ?_
  obtain ⟨_, _, ⟨T1, L1, k1, n1⟩, -, X1, ⟨Lc1, hQ1, l1, y1, z1⟩, st1⟩ := Jvm.LawKit.callS X0 hx (y := (⟨"com/example/cladestream/cladestream/AlignmentStateSetPinLaw", "letterTable", "()[I"⟩ : MethodName)) hown (mvT hZ (hw _ (List.mem_of_getElem? (i := 0) rfl))) (mvT hZ (hw _ (List.mem_of_getElem? (i := 1) rfl))) (mvT hZ (hw _ (List.mem_of_getElem? (i := 2) rfl))) (mvT hZ (hw _ (List.mem_of_getElem? (i := 3) rfl))) (by decide) (backOf (W := 0) (rm1 l Z a0 hw []  h0 n0 Z0) hZ (hw _ (List.mem_of_getElem? (i := 3) rfl)) (hw _ (List.mem_of_getElem? (i := 2) rfl)) (by decide) (by decide)) (g := (mkF m 0 #[.val (.int p1), .val (.int p2), .unset, .unset, .unset, .unset] [])) rfl (by rw [hml]; rfl) (argsL := []) (rest := []) (lenOf pd____I rfl) rfl (by show 2 * 0 + _ ≤ _; exact Nat.le_of_eq rfl) (hb hby at_0) (fun _ _ => ⟨rfl, e0, (by decide : 0 + 1 ≤ _), (by decide : 0 + 26 ≤ _)⟩)
  dsimp only [Pt.U, Pt.locs, Pt.cells, Pt.slots] at X1 l1 y1 z1 st1 hQ1
  subst l1 y1 z1
  obtain ⟨tb, k_tb, rfl, N1q, Zt, V_tb⟩ := hQ1
  have N1 := Fr.app N0 N1q
  refine go (B := T1.setTop (mkF m 3 #[.val (.int p1), .val (.int p2), .unset, .unset, .unset, .unset] [(.ref tb)])) (fun _ k => st1 _ k) ?_
  refine go (B := T1.setTop (mkF m 4 #[.val (.int p1), .val (.int p2), .val (.ref tb), .unset, .unset, .unset] [])) (fun _ k => XS.astoreN X1.here hx rfl (hb hby at_3) rfl rfl (l' := #[.val (.int p1), .val (.int p2), .val (.ref tb), .unset, .unset, .unset]) rfl k) ?_
  refine go (B := T1.setTop (mkF m 5 #[.val (.int p1), .val (.int p2), .val (.ref tb), .unset, .unset, .unset] [(.int p2)])) (fun _ k => XS.iloadN X1.here hx rfl (hb hby at_4) rfl k) ?_
  refine go (B := T1.setTop (mkF m 6 #[.val (.int p1), .val (.int p2), .val (.ref tb), .unset, .unset, .unset] [(.int (3 : Int32)), (.int p2)])) (fun _ k => XS.iconst X1.here hx rfl (hb hby at_5) k) ?_
  refine go (B := T1.setTop (mkF m 7 #[.val (.int p1), .val (.int p2), .val (.ref tb), .unset, .unset, .unset] [(.int (p2 &&& (3 : Int32)))])) (fun _ k => XS.iand X1.here hx rfl (hb hby at_6) rfl k) ?_
  refine go (B := T1.setTop (mkF m 8 #[.val (.int p1), .val (.int p2), .val (.ref tb), .val (.int (p2 &&& (3 : Int32))), .unset, .unset] [])) (fun _ k => XS.istoreN X1.here hx rfl (hb hby at_7) rfl (l' := #[.val (.int p1), .val (.int p2), .val (.ref tb), .val (.int (p2 &&& (3 : Int32))), .unset, .unset]) rfl k) ?_
  have tl71 : ∀ ch : Int32, 0 ≤ ch.toInt ∧ ch.toInt < 65536 → Go p.tables e below s room_1.cells room_1.slots (Q0 Z p1 p2 h0 n0) (T1.setTop (mkF m 71 #[.val (.int p1), .val (.int p2), .val (.ref tb), .val (.int (p2 &&& (3 : Int32))), .val (.int ch), .unset] [])) := by
    intro ch hch
    refine go (B := T1.setTop (mkF m 73 #[.val (.int p1), .val (.int p2), .val (.ref tb), .val (.int (p2 &&& (3 : Int32))), .val (.int ch), .unset] [(.int ch)])) (fun _ k => XS.iload X1.here hx rfl (hb hby at_71) rfl k) ?_
    refine go (B := T1.setTop (mkF m 75 #[.val (.int p1), .val (.int p2), .val (.ref tb), .val (.int (p2 &&& (3 : Int32))), .val (.int ch), .unset] [(.int (65 : Int32)), (.int ch)])) (fun _ k => XS.bipush X1.here hx rfl (hb hby at_73) k) ?_
    by_cases hc75 : ch < (65 : Int32)
    · refine go (B := T1.setTop (mkF m 97 #[.val (.int p1), .val (.int p2), .val (.ref tb), .val (.int (p2 &&& (3 : Int32))), .val (.int ch), .unset] [])) (fun _ k => XS.icmpYes X1.here hx rfl (pc0 := 75) (pc' := 97) rfl (hb hby at_75) rfl (tlt hc75).1 (by decide) (by decide) k) ?_
      refine go (B := T1.setTop (mkF m 99 #[.val (.int p1), .val (.int p2), .val (.ref tb), .val (.int (p2 &&& (3 : Int32))), .val (.int ch), .unset] [(.int ch)])) (fun _ k => XS.iload X1.here hx rfl (hb hby at_97) rfl k) ?_
      refine go (B := T1.setTop (mkF m 101 #[.val (.int p1), .val (.int p2), .val (.ref tb), .val (.int (p2 &&& (3 : Int32))), .val (.int ch), .unset] [(.int (97 : Int32)), (.int ch)])) (fun _ k => XS.bipush X1.here hx rfl (hb hby at_99) k) ?_
      by_cases hc101 : ch < (97 : Int32)
      · refine go (B := T1.setTop (mkF m 123 #[.val (.int p1), .val (.int p2), .val (.ref tb), .val (.int (p2 &&& (3 : Int32))), .val (.int ch), .unset] [])) (fun _ k => XS.icmpYes X1.here hx rfl (pc0 := 101) (pc' := 123) rfl (hb hby at_101) rfl (tlt hc101).1 (by decide) (by decide) k) ?_
        refine go (B := T1.setTop (mkF m 125 #[.val (.int p1), .val (.int p2), .val (.ref tb), .val (.int (p2 &&& (3 : Int32))), .val (.int ch), .unset] [(.int ch)])) (fun _ k => XS.iload X1.here hx rfl (hb hby at_123) rfl k) ?_
        refine go (B := T1.setTop (mkF m 127 #[.val (.int p1), .val (.int p2), .val (.ref tb), .val (.int (p2 &&& (3 : Int32))), .val (.int ch), .unset] [(.int (45 : Int32)), (.int ch)])) (fun _ k => XS.bipush X1.here hx rfl (hb hby at_125) k) ?_
        by_cases hc127 : ch = (45 : Int32)
        · refine go (B := T1.setTop (mkF m 137 #[.val (.int p1), .val (.int p2), .val (.ref tb), .val (.int (p2 &&& (3 : Int32))), .val (.int ch), .unset] [])) (fun _ k => XS.icmpYes X1.here hx rfl (pc0 := 127) (pc' := 137) rfl (hb hby at_127) rfl (teq hc127).1 (by decide) (by decide) k) ?_
          refine go (B := T1.setTop (mkF m 139 #[.val (.int p1), .val (.int p2), .val (.ref tb), .val (.int (p2 &&& (3 : Int32))), .val (.int ch), .unset] [(.int (15 : Int32))])) (fun _ k => XS.bipush X1.here hx rfl (hb hby at_137) k) ?_
          refine go (B := T1.setTop (mkF m 141 #[.val (.int p1), .val (.int p2), .val (.ref tb), .val (.int (p2 &&& (3 : Int32))), .val (.int ch), .val (.int (15 : Int32))] [])) (fun _ k => XS.istore X1.here hx rfl (hb hby at_139) rfl (l' := #[.val (.int p1), .val (.int p2), .val (.ref tb), .val (.int (p2 &&& (3 : Int32))), .val (.int ch), .val (.int (15 : Int32))]) rfl k) ?_
          refine go (B := T1.setTop (mkF m 147 #[.val (.int p1), .val (.int p2), .val (.ref tb), .val (.int (p2 &&& (3 : Int32))), .val (.int ch), .val (.int (15 : Int32))] [])) (fun _ k => XS.goto X1.here hx rfl (pc0 := 141) (pc' := 147) rfl (hb hby at_141) (by decide) (by decide) k) ?_
          refine go (B := T1.setTop (mkF m 149 #[.val (.int p1), .val (.int p2), .val (.ref tb), .val (.int (p2 &&& (3 : Int32))), .val (.int ch), .val (.int (15 : Int32))] [(.int ch)])) (fun _ k => XS.iload X1.here hx rfl (hb hby at_147) rfl k) ?_
          obtain ⟨_, _, ⟨T2, L2, k2, n2⟩, -, X2, ⟨Lc2, hQ2, l2, y2, z2⟩, st2⟩ := Jvm.LawKit.callS X1 hx (y := (⟨"com/example/cladestream/cladestream/Alignment", "stateSet", "(C)I"⟩ : MethodName)) hown (mvT hZ (hw _ (List.mem_of_getElem? (i := 6) rfl))) (mvT hZ (hw _ (List.mem_of_getElem? (i := 7) rfl))) (mvT hZ (hw _ (List.mem_of_getElem? (i := 8) rfl))) (mvT hZ (hw _ (List.mem_of_getElem? (i := 9) rfl))) (by decide) (backOf (W := 0) (rm2 l Z a0 hw [] ch T1.heap n0 Zt) hZ (hw _ (List.mem_of_getElem? (i := 9) rfl)) (hw _ (List.mem_of_getElem? (i := 8) rfl)) (by decide) (by decide)) (g := (mkF m 149 #[.val (.int p1), .val (.int p2), .val (.ref tb), .val (.int (p2 &&& (3 : Int32))), .val (.int ch), .val (.int (15 : Int32))] [(.int ch)])) rfl (by rw [hml]; rfl) (argsL := [(.int ch)]) (rest := []) (lenOf pd__C_I rfl) rfl (by show 2 * 0 + _ ≤ _; exact Nat.le_of_eq rfl) (hb hby at_149) (fun _ _ => ⟨rfl, rfl, (by decide : 1 + 0 ≤ _), (by decide : 26 + 0 ≤ _)⟩)
          dsimp only [Pt.U, Pt.locs, Pt.cells, Pt.slots] at X2 l2 y2 z2 st2 hQ2
          subst l2 y2 z2
          obtain ⟨rfl, N2q, e2⟩ := hQ2
          have N2 := Fr.app N1 N2q
          refine go (B := T2.setTop (mkF m 152 #[.val (.int p1), .val (.int p2), .val (.ref tb), .val (.int (p2 &&& (3 : Int32))), .val (.int ch), .val (.int (15 : Int32))] [(.int (fSS ch))])) (fun _ k => st2 _ k) ?_
          refine go (B := T2.setTop (mkF m 154 #[.val (.int p1), .val (.int p2), .val (.ref tb), .val (.int (p2 &&& (3 : Int32))), .val (.int ch), .val (.int (15 : Int32))] [(.int (15 : Int32)), (.int (fSS ch))])) (fun _ k => XS.iload X2.here hx rfl (hb hby at_152) rfl k) ?_
          have hc154 : (fSS ch) = (15 : Int32) := by rw [hc127]; exact dash_ok.1
          refine go (B := T2.setTop (mkF m 157 #[.val (.int p1), .val (.int p2), .val (.ref tb), .val (.int (p2 &&& (3 : Int32))), .val (.int ch), .val (.int (15 : Int32))] [])) (fun _ k => XS.icmpNo X2.here hx rfl (hb hby at_154) rfl (teq hc154).2 k) ?_
          refine go (B := T2.setTop (mkF m 158 #[.val (.int p1), .val (.int p2), .val (.ref tb), .val (.int (p2 &&& (3 : Int32))), .val (.int ch), .val (.int (15 : Int32))] [(.int (1 : Int32))])) (fun _ k => XS.iconst X2.here hx rfl (hb hby at_157) k) ?_
          refine go (B := T2.setTop (mkF m 162 #[.val (.int p1), .val (.int p2), .val (.ref tb), .val (.int (p2 &&& (3 : Int32))), .val (.int ch), .val (.int (15 : Int32))] [(.int (1 : Int32))])) (fun _ k => XS.goto X2.here hx rfl (pc0 := 158) (pc' := 162) rfl (hb hby at_158) (by decide) (by decide) k) ?_
          refine goRetN X2 hx (t := .boolean) Bd.returns (by simp) hlk (hb hby at_162) ?_ (by decide) (by decide)
          rw [e2]
          exact ⟨rfl, N2⟩
        · refine go (B := T1.setTop (mkF m 130 #[.val (.int p1), .val (.int p2), .val (.ref tb), .val (.int (p2 &&& (3 : Int32))), .val (.int ch), .unset] [])) (fun _ k => XS.icmpNo X1.here hx rfl (hb hby at_127) rfl (feq hc127).1 k) ?_
          refine go (B := T1.setTop (mkF m 132 #[.val (.int p1), .val (.int p2), .val (.ref tb), .val (.int (p2 &&& (3 : Int32))), .val (.int ch), .unset] [(.int ch)])) (fun _ k => XS.iload X1.here hx rfl (hb hby at_130) rfl k) ?_
          refine go (B := T1.setTop (mkF m 134 #[.val (.int p1), .val (.int p2), .val (.ref tb), .val (.int (p2 &&& (3 : Int32))), .val (.int ch), .unset] [(.int (63 : Int32)), (.int ch)])) (fun _ k => XS.bipush X1.here hx rfl (hb hby at_132) k) ?_
          by_cases hc134 : ch = (63 : Int32)
          · refine go (B := T1.setTop (mkF m 137 #[.val (.int p1), .val (.int p2), .val (.ref tb), .val (.int (p2 &&& (3 : Int32))), .val (.int ch), .unset] [])) (fun _ k => XS.icmpNo X1.here hx rfl (hb hby at_134) rfl (teq hc134).2 k) ?_
            refine go (B := T1.setTop (mkF m 139 #[.val (.int p1), .val (.int p2), .val (.ref tb), .val (.int (p2 &&& (3 : Int32))), .val (.int ch), .unset] [(.int (15 : Int32))])) (fun _ k => XS.bipush X1.here hx rfl (hb hby at_137) k) ?_
            refine go (B := T1.setTop (mkF m 141 #[.val (.int p1), .val (.int p2), .val (.ref tb), .val (.int (p2 &&& (3 : Int32))), .val (.int ch), .val (.int (15 : Int32))] [])) (fun _ k => XS.istore X1.here hx rfl (hb hby at_139) rfl (l' := #[.val (.int p1), .val (.int p2), .val (.ref tb), .val (.int (p2 &&& (3 : Int32))), .val (.int ch), .val (.int (15 : Int32))]) rfl k) ?_
            refine go (B := T1.setTop (mkF m 147 #[.val (.int p1), .val (.int p2), .val (.ref tb), .val (.int (p2 &&& (3 : Int32))), .val (.int ch), .val (.int (15 : Int32))] [])) (fun _ k => XS.goto X1.here hx rfl (pc0 := 141) (pc' := 147) rfl (hb hby at_141) (by decide) (by decide) k) ?_
            refine go (B := T1.setTop (mkF m 149 #[.val (.int p1), .val (.int p2), .val (.ref tb), .val (.int (p2 &&& (3 : Int32))), .val (.int ch), .val (.int (15 : Int32))] [(.int ch)])) (fun _ k => XS.iload X1.here hx rfl (hb hby at_147) rfl k) ?_
            obtain ⟨_, _, ⟨T3, L3, k3, n3⟩, -, X3, ⟨Lc3, hQ3, l3, y3, z3⟩, st3⟩ := Jvm.LawKit.callS X1 hx (y := (⟨"com/example/cladestream/cladestream/Alignment", "stateSet", "(C)I"⟩ : MethodName)) hown (mvT hZ (hw _ (List.mem_of_getElem? (i := 6) rfl))) (mvT hZ (hw _ (List.mem_of_getElem? (i := 7) rfl))) (mvT hZ (hw _ (List.mem_of_getElem? (i := 8) rfl))) (mvT hZ (hw _ (List.mem_of_getElem? (i := 9) rfl))) (by decide) (backOf (W := 0) (rm2 l Z a0 hw [] ch T1.heap n0 Zt) hZ (hw _ (List.mem_of_getElem? (i := 9) rfl)) (hw _ (List.mem_of_getElem? (i := 8) rfl)) (by decide) (by decide)) (g := (mkF m 149 #[.val (.int p1), .val (.int p2), .val (.ref tb), .val (.int (p2 &&& (3 : Int32))), .val (.int ch), .val (.int (15 : Int32))] [(.int ch)])) rfl (by rw [hml]; rfl) (argsL := [(.int ch)]) (rest := []) (lenOf pd__C_I rfl) rfl (by show 2 * 0 + _ ≤ _; exact Nat.le_of_eq rfl) (hb hby at_149) (fun _ _ => ⟨rfl, rfl, (by decide : 1 + 0 ≤ _), (by decide : 26 + 0 ≤ _)⟩)
            dsimp only [Pt.U, Pt.locs, Pt.cells, Pt.slots] at X3 l3 y3 z3 st3 hQ3
            subst l3 y3 z3
            obtain ⟨rfl, N3q, e3⟩ := hQ3
            have N3 := Fr.app N1 N3q
            refine go (B := T3.setTop (mkF m 152 #[.val (.int p1), .val (.int p2), .val (.ref tb), .val (.int (p2 &&& (3 : Int32))), .val (.int ch), .val (.int (15 : Int32))] [(.int (fSS ch))])) (fun _ k => st3 _ k) ?_
            refine go (B := T3.setTop (mkF m 154 #[.val (.int p1), .val (.int p2), .val (.ref tb), .val (.int (p2 &&& (3 : Int32))), .val (.int ch), .val (.int (15 : Int32))] [(.int (15 : Int32)), (.int (fSS ch))])) (fun _ k => XS.iload X3.here hx rfl (hb hby at_152) rfl k) ?_
            have hc154 : (fSS ch) = (15 : Int32) := by rw [hc134]; exact dash_ok.2
            refine go (B := T3.setTop (mkF m 157 #[.val (.int p1), .val (.int p2), .val (.ref tb), .val (.int (p2 &&& (3 : Int32))), .val (.int ch), .val (.int (15 : Int32))] [])) (fun _ k => XS.icmpNo X3.here hx rfl (hb hby at_154) rfl (teq hc154).2 k) ?_
            refine go (B := T3.setTop (mkF m 158 #[.val (.int p1), .val (.int p2), .val (.ref tb), .val (.int (p2 &&& (3 : Int32))), .val (.int ch), .val (.int (15 : Int32))] [(.int (1 : Int32))])) (fun _ k => XS.iconst X3.here hx rfl (hb hby at_157) k) ?_
            refine go (B := T3.setTop (mkF m 162 #[.val (.int p1), .val (.int p2), .val (.ref tb), .val (.int (p2 &&& (3 : Int32))), .val (.int ch), .val (.int (15 : Int32))] [(.int (1 : Int32))])) (fun _ k => XS.goto X3.here hx rfl (pc0 := 158) (pc' := 162) rfl (hb hby at_158) (by decide) (by decide) k) ?_
            refine goRetN X3 hx (t := .boolean) Bd.returns (by simp) hlk (hb hby at_162) ?_ (by decide) (by decide)
            rw [e3]
            exact ⟨rfl, N3⟩
          · refine go (B := T1.setTop (mkF m 144 #[.val (.int p1), .val (.int p2), .val (.ref tb), .val (.int (p2 &&& (3 : Int32))), .val (.int ch), .unset] [])) (fun _ k => XS.icmpYes X1.here hx rfl (pc0 := 134) (pc' := 144) rfl (hb hby at_134) rfl (feq hc134).2 (by decide) (by decide) k) ?_
            refine go (B := T1.setTop (mkF m 145 #[.val (.int p1), .val (.int p2), .val (.ref tb), .val (.int (p2 &&& (3 : Int32))), .val (.int ch), .unset] [(.int (-1 : Int32))])) (fun _ k => XS.iconst X1.here hx rfl (hb hby at_144) k) ?_
            refine go (B := T1.setTop (mkF m 147 #[.val (.int p1), .val (.int p2), .val (.ref tb), .val (.int (p2 &&& (3 : Int32))), .val (.int ch), .val (.int (-1 : Int32))] [])) (fun _ k => XS.istore X1.here hx rfl (hb hby at_145) rfl (l' := #[.val (.int p1), .val (.int p2), .val (.ref tb), .val (.int (p2 &&& (3 : Int32))), .val (.int ch), .val (.int (-1 : Int32))]) rfl k) ?_
            refine go (B := T1.setTop (mkF m 149 #[.val (.int p1), .val (.int p2), .val (.ref tb), .val (.int (p2 &&& (3 : Int32))), .val (.int ch), .val (.int (-1 : Int32))] [(.int ch)])) (fun _ k => XS.iload X1.here hx rfl (hb hby at_147) rfl k) ?_
            obtain ⟨_, _, ⟨T4, L4, k4, n4⟩, -, X4, ⟨Lc4, hQ4, l4, y4, z4⟩, st4⟩ := Jvm.LawKit.callS X1 hx (y := (⟨"com/example/cladestream/cladestream/Alignment", "stateSet", "(C)I"⟩ : MethodName)) hown (mvT hZ (hw _ (List.mem_of_getElem? (i := 6) rfl))) (mvT hZ (hw _ (List.mem_of_getElem? (i := 7) rfl))) (mvT hZ (hw _ (List.mem_of_getElem? (i := 8) rfl))) (mvT hZ (hw _ (List.mem_of_getElem? (i := 9) rfl))) (by decide) (backOf (W := 0) (rm2 l Z a0 hw [] ch T1.heap n0 Zt) hZ (hw _ (List.mem_of_getElem? (i := 9) rfl)) (hw _ (List.mem_of_getElem? (i := 8) rfl)) (by decide) (by decide)) (g := (mkF m 149 #[.val (.int p1), .val (.int p2), .val (.ref tb), .val (.int (p2 &&& (3 : Int32))), .val (.int ch), .val (.int (-1 : Int32))] [(.int ch)])) rfl (by rw [hml]; rfl) (argsL := [(.int ch)]) (rest := []) (lenOf pd__C_I rfl) rfl (by show 2 * 0 + _ ≤ _; exact Nat.le_of_eq rfl) (hb hby at_149) (fun _ _ => ⟨rfl, rfl, (by decide : 1 + 0 ≤ _), (by decide : 26 + 0 ≤ _)⟩)
            dsimp only [Pt.U, Pt.locs, Pt.cells, Pt.slots] at X4 l4 y4 z4 st4 hQ4
            subst l4 y4 z4
            obtain ⟨rfl, N4q, e4⟩ := hQ4
            have N4 := Fr.app N1 N4q
            refine go (B := T4.setTop (mkF m 152 #[.val (.int p1), .val (.int p2), .val (.ref tb), .val (.int (p2 &&& (3 : Int32))), .val (.int ch), .val (.int (-1 : Int32))] [(.int (fSS ch))])) (fun _ k => st4 _ k) ?_
            refine go (B := T4.setTop (mkF m 154 #[.val (.int p1), .val (.int p2), .val (.ref tb), .val (.int (p2 &&& (3 : Int32))), .val (.int ch), .val (.int (-1 : Int32))] [(.int (-1 : Int32)), (.int (fSS ch))])) (fun _ k => XS.iload X4.here hx rfl (hb hby at_152) rfl k) ?_
            have hc154 : (fSS ch) = (-1 : Int32) := by simp only [Int32.lt_iff_toInt_lt, Int64.lt_iff_toInt_lt, ← Int32.toInt_inj, ← Int64.toInt_inj, Int32.reduceToInt, Int64.reduceToInt] at hc75 hc101 hc127 hc134; exact none_ok (by omega) (by omega) (by omega) (by omega)
            refine go (B := T4.setTop (mkF m 157 #[.val (.int p1), .val (.int p2), .val (.ref tb), .val (.int (p2 &&& (3 : Int32))), .val (.int ch), .val (.int (-1 : Int32))] [])) (fun _ k => XS.icmpNo X4.here hx rfl (hb hby at_154) rfl (teq hc154).2 k) ?_
            refine go (B := T4.setTop (mkF m 158 #[.val (.int p1), .val (.int p2), .val (.ref tb), .val (.int (p2 &&& (3 : Int32))), .val (.int ch), .val (.int (-1 : Int32))] [(.int (1 : Int32))])) (fun _ k => XS.iconst X4.here hx rfl (hb hby at_157) k) ?_
            refine go (B := T4.setTop (mkF m 162 #[.val (.int p1), .val (.int p2), .val (.ref tb), .val (.int (p2 &&& (3 : Int32))), .val (.int ch), .val (.int (-1 : Int32))] [(.int (1 : Int32))])) (fun _ k => XS.goto X4.here hx rfl (pc0 := 158) (pc' := 162) rfl (hb hby at_158) (by decide) (by decide) k) ?_
            refine goRetN X4 hx (t := .boolean) Bd.returns (by simp) hlk (hb hby at_162) ?_ (by decide) (by decide)
            rw [e4]
            exact ⟨rfl, N4⟩
      · refine go (B := T1.setTop (mkF m 104 #[.val (.int p1), .val (.int p2), .val (.ref tb), .val (.int (p2 &&& (3 : Int32))), .val (.int ch), .unset] [])) (fun _ k => XS.icmpNo X1.here hx rfl (hb hby at_101) rfl (flt hc101).1 k) ?_
        refine go (B := T1.setTop (mkF m 106 #[.val (.int p1), .val (.int p2), .val (.ref tb), .val (.int (p2 &&& (3 : Int32))), .val (.int ch), .unset] [(.int ch)])) (fun _ k => XS.iload X1.here hx rfl (hb hby at_104) rfl k) ?_
        refine go (B := T1.setTop (mkF m 108 #[.val (.int p1), .val (.int p2), .val (.ref tb), .val (.int (p2 &&& (3 : Int32))), .val (.int ch), .unset] [(.int (122 : Int32)), (.int ch)])) (fun _ k => XS.bipush X1.here hx rfl (hb hby at_106) k) ?_
        by_cases hc108 : (122 : Int32) < ch
        · refine go (B := T1.setTop (mkF m 123 #[.val (.int p1), .val (.int p2), .val (.ref tb), .val (.int (p2 &&& (3 : Int32))), .val (.int ch), .unset] [])) (fun _ k => XS.icmpYes X1.here hx rfl (pc0 := 108) (pc' := 123) rfl (hb hby at_108) rfl (tlt hc108).2.2.1 (by decide) (by decide) k) ?_
          refine go (B := T1.setTop (mkF m 125 #[.val (.int p1), .val (.int p2), .val (.ref tb), .val (.int (p2 &&& (3 : Int32))), .val (.int ch), .unset] [(.int ch)])) (fun _ k => XS.iload X1.here hx rfl (hb hby at_123) rfl k) ?_
          refine go (B := T1.setTop (mkF m 127 #[.val (.int p1), .val (.int p2), .val (.ref tb), .val (.int (p2 &&& (3 : Int32))), .val (.int ch), .unset] [(.int (45 : Int32)), (.int ch)])) (fun _ k => XS.bipush X1.here hx rfl (hb hby at_125) k) ?_
          by_cases hc127 : ch = (45 : Int32)
          · refine go (B := T1.setTop (mkF m 137 #[.val (.int p1), .val (.int p2), .val (.ref tb), .val (.int (p2 &&& (3 : Int32))), .val (.int ch), .unset] [])) (fun _ k => XS.icmpYes X1.here hx rfl (pc0 := 127) (pc' := 137) rfl (hb hby at_127) rfl (teq hc127).1 (by decide) (by decide) k) ?_
            refine go (B := T1.setTop (mkF m 139 #[.val (.int p1), .val (.int p2), .val (.ref tb), .val (.int (p2 &&& (3 : Int32))), .val (.int ch), .unset] [(.int (15 : Int32))])) (fun _ k => XS.bipush X1.here hx rfl (hb hby at_137) k) ?_
            refine go (B := T1.setTop (mkF m 141 #[.val (.int p1), .val (.int p2), .val (.ref tb), .val (.int (p2 &&& (3 : Int32))), .val (.int ch), .val (.int (15 : Int32))] [])) (fun _ k => XS.istore X1.here hx rfl (hb hby at_139) rfl (l' := #[.val (.int p1), .val (.int p2), .val (.ref tb), .val (.int (p2 &&& (3 : Int32))), .val (.int ch), .val (.int (15 : Int32))]) rfl k) ?_
            refine go (B := T1.setTop (mkF m 147 #[.val (.int p1), .val (.int p2), .val (.ref tb), .val (.int (p2 &&& (3 : Int32))), .val (.int ch), .val (.int (15 : Int32))] [])) (fun _ k => XS.goto X1.here hx rfl (pc0 := 141) (pc' := 147) rfl (hb hby at_141) (by decide) (by decide) k) ?_
            refine go (B := T1.setTop (mkF m 149 #[.val (.int p1), .val (.int p2), .val (.ref tb), .val (.int (p2 &&& (3 : Int32))), .val (.int ch), .val (.int (15 : Int32))] [(.int ch)])) (fun _ k => XS.iload X1.here hx rfl (hb hby at_147) rfl k) ?_
            obtain ⟨_, _, ⟨T5, L5, k5, n5⟩, -, X5, ⟨Lc5, hQ5, l5, y5, z5⟩, st5⟩ := Jvm.LawKit.callS X1 hx (y := (⟨"com/example/cladestream/cladestream/Alignment", "stateSet", "(C)I"⟩ : MethodName)) hown (mvT hZ (hw _ (List.mem_of_getElem? (i := 6) rfl))) (mvT hZ (hw _ (List.mem_of_getElem? (i := 7) rfl))) (mvT hZ (hw _ (List.mem_of_getElem? (i := 8) rfl))) (mvT hZ (hw _ (List.mem_of_getElem? (i := 9) rfl))) (by decide) (backOf (W := 0) (rm2 l Z a0 hw [] ch T1.heap n0 Zt) hZ (hw _ (List.mem_of_getElem? (i := 9) rfl)) (hw _ (List.mem_of_getElem? (i := 8) rfl)) (by decide) (by decide)) (g := (mkF m 149 #[.val (.int p1), .val (.int p2), .val (.ref tb), .val (.int (p2 &&& (3 : Int32))), .val (.int ch), .val (.int (15 : Int32))] [(.int ch)])) rfl (by rw [hml]; rfl) (argsL := [(.int ch)]) (rest := []) (lenOf pd__C_I rfl) rfl (by show 2 * 0 + _ ≤ _; exact Nat.le_of_eq rfl) (hb hby at_149) (fun _ _ => ⟨rfl, rfl, (by decide : 1 + 0 ≤ _), (by decide : 26 + 0 ≤ _)⟩)
            dsimp only [Pt.U, Pt.locs, Pt.cells, Pt.slots] at X5 l5 y5 z5 st5 hQ5
            subst l5 y5 z5
            obtain ⟨rfl, N5q, e5⟩ := hQ5
            have N5 := Fr.app N1 N5q
            refine go (B := T5.setTop (mkF m 152 #[.val (.int p1), .val (.int p2), .val (.ref tb), .val (.int (p2 &&& (3 : Int32))), .val (.int ch), .val (.int (15 : Int32))] [(.int (fSS ch))])) (fun _ k => st5 _ k) ?_
            refine go (B := T5.setTop (mkF m 154 #[.val (.int p1), .val (.int p2), .val (.ref tb), .val (.int (p2 &&& (3 : Int32))), .val (.int ch), .val (.int (15 : Int32))] [(.int (15 : Int32)), (.int (fSS ch))])) (fun _ k => XS.iload X5.here hx rfl (hb hby at_152) rfl k) ?_
            have hc154 : (fSS ch) = (15 : Int32) := by rw [hc127]; exact dash_ok.1
            refine go (B := T5.setTop (mkF m 157 #[.val (.int p1), .val (.int p2), .val (.ref tb), .val (.int (p2 &&& (3 : Int32))), .val (.int ch), .val (.int (15 : Int32))] [])) (fun _ k => XS.icmpNo X5.here hx rfl (hb hby at_154) rfl (teq hc154).2 k) ?_
            refine go (B := T5.setTop (mkF m 158 #[.val (.int p1), .val (.int p2), .val (.ref tb), .val (.int (p2 &&& (3 : Int32))), .val (.int ch), .val (.int (15 : Int32))] [(.int (1 : Int32))])) (fun _ k => XS.iconst X5.here hx rfl (hb hby at_157) k) ?_
            refine go (B := T5.setTop (mkF m 162 #[.val (.int p1), .val (.int p2), .val (.ref tb), .val (.int (p2 &&& (3 : Int32))), .val (.int ch), .val (.int (15 : Int32))] [(.int (1 : Int32))])) (fun _ k => XS.goto X5.here hx rfl (pc0 := 158) (pc' := 162) rfl (hb hby at_158) (by decide) (by decide) k) ?_
            refine goRetN X5 hx (t := .boolean) Bd.returns (by simp) hlk (hb hby at_162) ?_ (by decide) (by decide)
            rw [e5]
            exact ⟨rfl, N5⟩
          · refine go (B := T1.setTop (mkF m 130 #[.val (.int p1), .val (.int p2), .val (.ref tb), .val (.int (p2 &&& (3 : Int32))), .val (.int ch), .unset] [])) (fun _ k => XS.icmpNo X1.here hx rfl (hb hby at_127) rfl (feq hc127).1 k) ?_
            refine go (B := T1.setTop (mkF m 132 #[.val (.int p1), .val (.int p2), .val (.ref tb), .val (.int (p2 &&& (3 : Int32))), .val (.int ch), .unset] [(.int ch)])) (fun _ k => XS.iload X1.here hx rfl (hb hby at_130) rfl k) ?_
            refine go (B := T1.setTop (mkF m 134 #[.val (.int p1), .val (.int p2), .val (.ref tb), .val (.int (p2 &&& (3 : Int32))), .val (.int ch), .unset] [(.int (63 : Int32)), (.int ch)])) (fun _ k => XS.bipush X1.here hx rfl (hb hby at_132) k) ?_
            by_cases hc134 : ch = (63 : Int32)
            · refine go (B := T1.setTop (mkF m 137 #[.val (.int p1), .val (.int p2), .val (.ref tb), .val (.int (p2 &&& (3 : Int32))), .val (.int ch), .unset] [])) (fun _ k => XS.icmpNo X1.here hx rfl (hb hby at_134) rfl (teq hc134).2 k) ?_
              refine go (B := T1.setTop (mkF m 139 #[.val (.int p1), .val (.int p2), .val (.ref tb), .val (.int (p2 &&& (3 : Int32))), .val (.int ch), .unset] [(.int (15 : Int32))])) (fun _ k => XS.bipush X1.here hx rfl (hb hby at_137) k) ?_
              refine go (B := T1.setTop (mkF m 141 #[.val (.int p1), .val (.int p2), .val (.ref tb), .val (.int (p2 &&& (3 : Int32))), .val (.int ch), .val (.int (15 : Int32))] [])) (fun _ k => XS.istore X1.here hx rfl (hb hby at_139) rfl (l' := #[.val (.int p1), .val (.int p2), .val (.ref tb), .val (.int (p2 &&& (3 : Int32))), .val (.int ch), .val (.int (15 : Int32))]) rfl k) ?_
              refine go (B := T1.setTop (mkF m 147 #[.val (.int p1), .val (.int p2), .val (.ref tb), .val (.int (p2 &&& (3 : Int32))), .val (.int ch), .val (.int (15 : Int32))] [])) (fun _ k => XS.goto X1.here hx rfl (pc0 := 141) (pc' := 147) rfl (hb hby at_141) (by decide) (by decide) k) ?_
              refine go (B := T1.setTop (mkF m 149 #[.val (.int p1), .val (.int p2), .val (.ref tb), .val (.int (p2 &&& (3 : Int32))), .val (.int ch), .val (.int (15 : Int32))] [(.int ch)])) (fun _ k => XS.iload X1.here hx rfl (hb hby at_147) rfl k) ?_
              obtain ⟨_, _, ⟨T6, L6, k6, n6⟩, -, X6, ⟨Lc6, hQ6, l6, y6, z6⟩, st6⟩ := Jvm.LawKit.callS X1 hx (y := (⟨"com/example/cladestream/cladestream/Alignment", "stateSet", "(C)I"⟩ : MethodName)) hown (mvT hZ (hw _ (List.mem_of_getElem? (i := 6) rfl))) (mvT hZ (hw _ (List.mem_of_getElem? (i := 7) rfl))) (mvT hZ (hw _ (List.mem_of_getElem? (i := 8) rfl))) (mvT hZ (hw _ (List.mem_of_getElem? (i := 9) rfl))) (by decide) (backOf (W := 0) (rm2 l Z a0 hw [] ch T1.heap n0 Zt) hZ (hw _ (List.mem_of_getElem? (i := 9) rfl)) (hw _ (List.mem_of_getElem? (i := 8) rfl)) (by decide) (by decide)) (g := (mkF m 149 #[.val (.int p1), .val (.int p2), .val (.ref tb), .val (.int (p2 &&& (3 : Int32))), .val (.int ch), .val (.int (15 : Int32))] [(.int ch)])) rfl (by rw [hml]; rfl) (argsL := [(.int ch)]) (rest := []) (lenOf pd__C_I rfl) rfl (by show 2 * 0 + _ ≤ _; exact Nat.le_of_eq rfl) (hb hby at_149) (fun _ _ => ⟨rfl, rfl, (by decide : 1 + 0 ≤ _), (by decide : 26 + 0 ≤ _)⟩)
              dsimp only [Pt.U, Pt.locs, Pt.cells, Pt.slots] at X6 l6 y6 z6 st6 hQ6
              subst l6 y6 z6
              obtain ⟨rfl, N6q, e6⟩ := hQ6
              have N6 := Fr.app N1 N6q
              refine go (B := T6.setTop (mkF m 152 #[.val (.int p1), .val (.int p2), .val (.ref tb), .val (.int (p2 &&& (3 : Int32))), .val (.int ch), .val (.int (15 : Int32))] [(.int (fSS ch))])) (fun _ k => st6 _ k) ?_
              refine go (B := T6.setTop (mkF m 154 #[.val (.int p1), .val (.int p2), .val (.ref tb), .val (.int (p2 &&& (3 : Int32))), .val (.int ch), .val (.int (15 : Int32))] [(.int (15 : Int32)), (.int (fSS ch))])) (fun _ k => XS.iload X6.here hx rfl (hb hby at_152) rfl k) ?_
              have hc154 : (fSS ch) = (15 : Int32) := by rw [hc134]; exact dash_ok.2
              refine go (B := T6.setTop (mkF m 157 #[.val (.int p1), .val (.int p2), .val (.ref tb), .val (.int (p2 &&& (3 : Int32))), .val (.int ch), .val (.int (15 : Int32))] [])) (fun _ k => XS.icmpNo X6.here hx rfl (hb hby at_154) rfl (teq hc154).2 k) ?_
              refine go (B := T6.setTop (mkF m 158 #[.val (.int p1), .val (.int p2), .val (.ref tb), .val (.int (p2 &&& (3 : Int32))), .val (.int ch), .val (.int (15 : Int32))] [(.int (1 : Int32))])) (fun _ k => XS.iconst X6.here hx rfl (hb hby at_157) k) ?_
              refine go (B := T6.setTop (mkF m 162 #[.val (.int p1), .val (.int p2), .val (.ref tb), .val (.int (p2 &&& (3 : Int32))), .val (.int ch), .val (.int (15 : Int32))] [(.int (1 : Int32))])) (fun _ k => XS.goto X6.here hx rfl (pc0 := 158) (pc' := 162) rfl (hb hby at_158) (by decide) (by decide) k) ?_
              refine goRetN X6 hx (t := .boolean) Bd.returns (by simp) hlk (hb hby at_162) ?_ (by decide) (by decide)
              rw [e6]
              exact ⟨rfl, N6⟩
            · refine go (B := T1.setTop (mkF m 144 #[.val (.int p1), .val (.int p2), .val (.ref tb), .val (.int (p2 &&& (3 : Int32))), .val (.int ch), .unset] [])) (fun _ k => XS.icmpYes X1.here hx rfl (pc0 := 134) (pc' := 144) rfl (hb hby at_134) rfl (feq hc134).2 (by decide) (by decide) k) ?_
              refine go (B := T1.setTop (mkF m 145 #[.val (.int p1), .val (.int p2), .val (.ref tb), .val (.int (p2 &&& (3 : Int32))), .val (.int ch), .unset] [(.int (-1 : Int32))])) (fun _ k => XS.iconst X1.here hx rfl (hb hby at_144) k) ?_
              refine go (B := T1.setTop (mkF m 147 #[.val (.int p1), .val (.int p2), .val (.ref tb), .val (.int (p2 &&& (3 : Int32))), .val (.int ch), .val (.int (-1 : Int32))] [])) (fun _ k => XS.istore X1.here hx rfl (hb hby at_145) rfl (l' := #[.val (.int p1), .val (.int p2), .val (.ref tb), .val (.int (p2 &&& (3 : Int32))), .val (.int ch), .val (.int (-1 : Int32))]) rfl k) ?_
              refine go (B := T1.setTop (mkF m 149 #[.val (.int p1), .val (.int p2), .val (.ref tb), .val (.int (p2 &&& (3 : Int32))), .val (.int ch), .val (.int (-1 : Int32))] [(.int ch)])) (fun _ k => XS.iload X1.here hx rfl (hb hby at_147) rfl k) ?_
              obtain ⟨_, _, ⟨T7, L7, k7, n7⟩, -, X7, ⟨Lc7, hQ7, l7, y7, z7⟩, st7⟩ := Jvm.LawKit.callS X1 hx (y := (⟨"com/example/cladestream/cladestream/Alignment", "stateSet", "(C)I"⟩ : MethodName)) hown (mvT hZ (hw _ (List.mem_of_getElem? (i := 6) rfl))) (mvT hZ (hw _ (List.mem_of_getElem? (i := 7) rfl))) (mvT hZ (hw _ (List.mem_of_getElem? (i := 8) rfl))) (mvT hZ (hw _ (List.mem_of_getElem? (i := 9) rfl))) (by decide) (backOf (W := 0) (rm2 l Z a0 hw [] ch T1.heap n0 Zt) hZ (hw _ (List.mem_of_getElem? (i := 9) rfl)) (hw _ (List.mem_of_getElem? (i := 8) rfl)) (by decide) (by decide)) (g := (mkF m 149 #[.val (.int p1), .val (.int p2), .val (.ref tb), .val (.int (p2 &&& (3 : Int32))), .val (.int ch), .val (.int (-1 : Int32))] [(.int ch)])) rfl (by rw [hml]; rfl) (argsL := [(.int ch)]) (rest := []) (lenOf pd__C_I rfl) rfl (by show 2 * 0 + _ ≤ _; exact Nat.le_of_eq rfl) (hb hby at_149) (fun _ _ => ⟨rfl, rfl, (by decide : 1 + 0 ≤ _), (by decide : 26 + 0 ≤ _)⟩)
              dsimp only [Pt.U, Pt.locs, Pt.cells, Pt.slots] at X7 l7 y7 z7 st7 hQ7
              subst l7 y7 z7
              obtain ⟨rfl, N7q, e7⟩ := hQ7
              have N7 := Fr.app N1 N7q
              refine go (B := T7.setTop (mkF m 152 #[.val (.int p1), .val (.int p2), .val (.ref tb), .val (.int (p2 &&& (3 : Int32))), .val (.int ch), .val (.int (-1 : Int32))] [(.int (fSS ch))])) (fun _ k => st7 _ k) ?_
              refine go (B := T7.setTop (mkF m 154 #[.val (.int p1), .val (.int p2), .val (.ref tb), .val (.int (p2 &&& (3 : Int32))), .val (.int ch), .val (.int (-1 : Int32))] [(.int (-1 : Int32)), (.int (fSS ch))])) (fun _ k => XS.iload X7.here hx rfl (hb hby at_152) rfl k) ?_
              have hc154 : (fSS ch) = (-1 : Int32) := by simp only [Int32.lt_iff_toInt_lt, Int64.lt_iff_toInt_lt, ← Int32.toInt_inj, ← Int64.toInt_inj, Int32.reduceToInt, Int64.reduceToInt] at hc75 hc101 hc108 hc127 hc134; exact none_ok (by omega) (by omega) (by omega) (by omega)
              refine go (B := T7.setTop (mkF m 157 #[.val (.int p1), .val (.int p2), .val (.ref tb), .val (.int (p2 &&& (3 : Int32))), .val (.int ch), .val (.int (-1 : Int32))] [])) (fun _ k => XS.icmpNo X7.here hx rfl (hb hby at_154) rfl (teq hc154).2 k) ?_
              refine go (B := T7.setTop (mkF m 158 #[.val (.int p1), .val (.int p2), .val (.ref tb), .val (.int (p2 &&& (3 : Int32))), .val (.int ch), .val (.int (-1 : Int32))] [(.int (1 : Int32))])) (fun _ k => XS.iconst X7.here hx rfl (hb hby at_157) k) ?_
              refine go (B := T7.setTop (mkF m 162 #[.val (.int p1), .val (.int p2), .val (.ref tb), .val (.int (p2 &&& (3 : Int32))), .val (.int ch), .val (.int (-1 : Int32))] [(.int (1 : Int32))])) (fun _ k => XS.goto X7.here hx rfl (pc0 := 158) (pc' := 162) rfl (hb hby at_158) (by decide) (by decide) k) ?_
              refine goRetN X7 hx (t := .boolean) Bd.returns (by simp) hlk (hb hby at_162) ?_ (by decide) (by decide)
              rw [e7]
              exact ⟨rfl, N7⟩
        · refine go (B := T1.setTop (mkF m 111 #[.val (.int p1), .val (.int p2), .val (.ref tb), .val (.int (p2 &&& (3 : Int32))), .val (.int ch), .unset] [])) (fun _ k => XS.icmpNo X1.here hx rfl (hb hby at_108) rfl (flt hc108).2.2.1 k) ?_
          refine go (B := T1.setTop (mkF m 112 #[.val (.int p1), .val (.int p2), .val (.ref tb), .val (.int (p2 &&& (3 : Int32))), .val (.int ch), .unset] [(.ref tb)])) (fun _ k => XS.aloadN X1.here hx rfl (hb hby at_111) rfl rfl k) ?_
          refine go (B := T1.setTop (mkF m 114 #[.val (.int p1), .val (.int p2), .val (.ref tb), .val (.int (p2 &&& (3 : Int32))), .val (.int ch), .unset] [(.int ch), (.ref tb)])) (fun _ k => XS.iload X1.here hx rfl (hb hby at_112) rfl k) ?_
          refine go (B := T1.setTop (mkF m 116 #[.val (.int p1), .val (.int p2), .val (.ref tb), .val (.int (p2 &&& (3 : Int32))), .val (.int ch), .unset] [(.int (97 : Int32)), (.int ch), (.ref tb)])) (fun _ k => XS.bipush X1.here hx rfl (hb hby at_114) k) ?_
          refine go (B := T1.setTop (mkF m 117 #[.val (.int p1), .val (.int p2), .val (.ref tb), .val (.int (p2 &&& (3 : Int32))), .val (.int ch), .unset] [(.int (ch - (97 : Int32))), (.ref tb)])) (fun _ k => XS.isub X1.here hx rfl (hb hby at_116) rfl k) ?_
          obtain ⟨cl8, Ar8, -, S8, M8, H8, -⟩ := V_tb
          have in8 : ¬ (ch - (97 : Int32)) < 0 ∧ (ch - (97 : Int32)) < 26 := by
            have c1 : (97 : Int32).toInt = 97 := by decide
            have c2 : (26 : Int32).toInt = 26 := by decide
            have c3 : (0 : Int32).toInt = 0 := by decide
            have q := idx (c := ch) (a := (97 : Int32))
            simp only [Int32.lt_iff_toInt_lt, Int64.lt_iff_toInt_lt, ← Int32.toInt_inj, ← Int64.toInt_inj, Int32.reduceToInt, Int64.reduceToInt] at hc75 hc101 hc108
            rw [c1] at q
            rw [Int32.lt_iff_toInt_lt, Int32.lt_iff_toInt_lt, c2, c3]
            have q' := q (by omega) (by omega)
            omega
          have hin8 := inb_of S8 in8
          refine go (B := T1.setTop (mkF m 118 #[.val (.int p1), .val (.int p2), .val (.ref tb), .val (.int (p2 &&& (3 : Int32))), .val (.int ch), .unset] [(.int (tbl.getD ((ch - (97 : Int32))).toNatClampNeg 0))])) (fun _ k => X1.iaload hx (j := (ch - (97 : Int32))) (v := (.int (tbl.getD ((ch - (97 : Int32))).toNatClampNeg 0))) Ar8.1 (State.isArrayOf_alike hZ.alike Ar8.2.1) Ar8.2.2 hin8 (tab_at H8 (Nat.lt_of_not_le fun q => hin8 (Or.inr q))) (g := (mkF m 117 #[.val (.int p1), .val (.int p2), .val (.ref tb), .val (.int (p2 &&& (3 : Int32))), .val (.int ch), .unset] [(.int (ch - (97 : Int32))), (.ref tb)])) rfl rfl (hb hby at_117) _ k) ?_
          refine go (B := T1.setTop (mkF m 120 #[.val (.int p1), .val (.int p2), .val (.ref tb), .val (.int (p2 &&& (3 : Int32))), .val (.int ch), .val (.int (tbl.getD ((ch - (97 : Int32))).toNatClampNeg 0))] [])) (fun _ k => XS.istore X1.here hx rfl (hb hby at_118) rfl (l' := #[.val (.int p1), .val (.int p2), .val (.ref tb), .val (.int (p2 &&& (3 : Int32))), .val (.int ch), .val (.int (tbl.getD ((ch - (97 : Int32))).toNatClampNeg 0))]) rfl k) ?_
          refine go (B := T1.setTop (mkF m 147 #[.val (.int p1), .val (.int p2), .val (.ref tb), .val (.int (p2 &&& (3 : Int32))), .val (.int ch), .val (.int (tbl.getD ((ch - (97 : Int32))).toNatClampNeg 0))] [])) (fun _ k => XS.goto X1.here hx rfl (pc0 := 120) (pc' := 147) rfl (hb hby at_120) (by decide) (by decide) k) ?_
          refine go (B := T1.setTop (mkF m 149 #[.val (.int p1), .val (.int p2), .val (.ref tb), .val (.int (p2 &&& (3 : Int32))), .val (.int ch), .val (.int (tbl.getD ((ch - (97 : Int32))).toNatClampNeg 0))] [(.int ch)])) (fun _ k => XS.iload X1.here hx rfl (hb hby at_147) rfl k) ?_
          obtain ⟨_, _, ⟨T9, L9, k9, n9⟩, -, X9, ⟨Lc9, hQ9, l9, y9, z9⟩, st9⟩ := Jvm.LawKit.callS X1 hx (y := (⟨"com/example/cladestream/cladestream/Alignment", "stateSet", "(C)I"⟩ : MethodName)) hown (mvT hZ (hw _ (List.mem_of_getElem? (i := 6) rfl))) (mvT hZ (hw _ (List.mem_of_getElem? (i := 7) rfl))) (mvT hZ (hw _ (List.mem_of_getElem? (i := 8) rfl))) (mvT hZ (hw _ (List.mem_of_getElem? (i := 9) rfl))) (by decide) (backOf (W := 0) (rm2 l Z a0 hw [] ch T1.heap n0 Zt) hZ (hw _ (List.mem_of_getElem? (i := 9) rfl)) (hw _ (List.mem_of_getElem? (i := 8) rfl)) (by decide) (by decide)) (g := (mkF m 149 #[.val (.int p1), .val (.int p2), .val (.ref tb), .val (.int (p2 &&& (3 : Int32))), .val (.int ch), .val (.int (tbl.getD ((ch - (97 : Int32))).toNatClampNeg 0))] [(.int ch)])) rfl (by rw [hml]; rfl) (argsL := [(.int ch)]) (rest := []) (lenOf pd__C_I rfl) rfl (by show 2 * 0 + _ ≤ _; exact Nat.le_of_eq rfl) (hb hby at_149) (fun _ _ => ⟨rfl, rfl, (by decide : 1 + 0 ≤ _), (by decide : 26 + 0 ≤ _)⟩)
          dsimp only [Pt.U, Pt.locs, Pt.cells, Pt.slots] at X9 l9 y9 z9 st9 hQ9
          subst l9 y9 z9
          obtain ⟨rfl, N9q, e9⟩ := hQ9
          have N9 := Fr.app N1 N9q
          refine go (B := T9.setTop (mkF m 152 #[.val (.int p1), .val (.int p2), .val (.ref tb), .val (.int (p2 &&& (3 : Int32))), .val (.int ch), .val (.int (tbl.getD ((ch - (97 : Int32))).toNatClampNeg 0))] [(.int (fSS ch))])) (fun _ k => st9 _ k) ?_
          refine go (B := T9.setTop (mkF m 154 #[.val (.int p1), .val (.int p2), .val (.ref tb), .val (.int (p2 &&& (3 : Int32))), .val (.int ch), .val (.int (tbl.getD ((ch - (97 : Int32))).toNatClampNeg 0))] [(.int (tbl.getD ((ch - (97 : Int32))).toNatClampNeg 0)), (.int (fSS ch))])) (fun _ k => XS.iload X9.here hx rfl (hb hby at_152) rfl k) ?_
          have hc154 : (fSS ch) = (tbl.getD ((ch - (97 : Int32))).toNatClampNeg 0) := by simp only [Int32.lt_iff_toInt_lt, Int64.lt_iff_toInt_lt, ← Int32.toInt_inj, ← Int64.toInt_inj, Int32.reduceToInt, Int64.reduceToInt] at hc75 hc101 hc108; exact lo_ok (by omega) (by omega)
          refine go (B := T9.setTop (mkF m 157 #[.val (.int p1), .val (.int p2), .val (.ref tb), .val (.int (p2 &&& (3 : Int32))), .val (.int ch), .val (.int (tbl.getD ((ch - (97 : Int32))).toNatClampNeg 0))] [])) (fun _ k => XS.icmpNo X9.here hx rfl (hb hby at_154) rfl (teq hc154).2 k) ?_
          refine go (B := T9.setTop (mkF m 158 #[.val (.int p1), .val (.int p2), .val (.ref tb), .val (.int (p2 &&& (3 : Int32))), .val (.int ch), .val (.int (tbl.getD ((ch - (97 : Int32))).toNatClampNeg 0))] [(.int (1 : Int32))])) (fun _ k => XS.iconst X9.here hx rfl (hb hby at_157) k) ?_
          refine go (B := T9.setTop (mkF m 162 #[.val (.int p1), .val (.int p2), .val (.ref tb), .val (.int (p2 &&& (3 : Int32))), .val (.int ch), .val (.int (tbl.getD ((ch - (97 : Int32))).toNatClampNeg 0))] [(.int (1 : Int32))])) (fun _ k => XS.goto X9.here hx rfl (pc0 := 158) (pc' := 162) rfl (hb hby at_158) (by decide) (by decide) k) ?_
          refine goRetN X9 hx (t := .boolean) Bd.returns (by simp) hlk (hb hby at_162) ?_ (by decide) (by decide)
          rw [e9]
          exact ⟨rfl, N9⟩
    · refine go (B := T1.setTop (mkF m 78 #[.val (.int p1), .val (.int p2), .val (.ref tb), .val (.int (p2 &&& (3 : Int32))), .val (.int ch), .unset] [])) (fun _ k => XS.icmpNo X1.here hx rfl (hb hby at_75) rfl (flt hc75).1 k) ?_
      refine go (B := T1.setTop (mkF m 80 #[.val (.int p1), .val (.int p2), .val (.ref tb), .val (.int (p2 &&& (3 : Int32))), .val (.int ch), .unset] [(.int ch)])) (fun _ k => XS.iload X1.here hx rfl (hb hby at_78) rfl k) ?_
      refine go (B := T1.setTop (mkF m 82 #[.val (.int p1), .val (.int p2), .val (.ref tb), .val (.int (p2 &&& (3 : Int32))), .val (.int ch), .unset] [(.int (90 : Int32)), (.int ch)])) (fun _ k => XS.bipush X1.here hx rfl (hb hby at_80) k) ?_
      by_cases hc82 : (90 : Int32) < ch
      · refine go (B := T1.setTop (mkF m 97 #[.val (.int p1), .val (.int p2), .val (.ref tb), .val (.int (p2 &&& (3 : Int32))), .val (.int ch), .unset] [])) (fun _ k => XS.icmpYes X1.here hx rfl (pc0 := 82) (pc' := 97) rfl (hb hby at_82) rfl (tlt hc82).2.2.1 (by decide) (by decide) k) ?_
        refine go (B := T1.setTop (mkF m 99 #[.val (.int p1), .val (.int p2), .val (.ref tb), .val (.int (p2 &&& (3 : Int32))), .val (.int ch), .unset] [(.int ch)])) (fun _ k => XS.iload X1.here hx rfl (hb hby at_97) rfl k) ?_
        refine go (B := T1.setTop (mkF m 101 #[.val (.int p1), .val (.int p2), .val (.ref tb), .val (.int (p2 &&& (3 : Int32))), .val (.int ch), .unset] [(.int (97 : Int32)), (.int ch)])) (fun _ k => XS.bipush X1.here hx rfl (hb hby at_99) k) ?_
        by_cases hc101 : ch < (97 : Int32)
        · refine go (B := T1.setTop (mkF m 123 #[.val (.int p1), .val (.int p2), .val (.ref tb), .val (.int (p2 &&& (3 : Int32))), .val (.int ch), .unset] [])) (fun _ k => XS.icmpYes X1.here hx rfl (pc0 := 101) (pc' := 123) rfl (hb hby at_101) rfl (tlt hc101).1 (by decide) (by decide) k) ?_
          refine go (B := T1.setTop (mkF m 125 #[.val (.int p1), .val (.int p2), .val (.ref tb), .val (.int (p2 &&& (3 : Int32))), .val (.int ch), .unset] [(.int ch)])) (fun _ k => XS.iload X1.here hx rfl (hb hby at_123) rfl k) ?_
          refine go (B := T1.setTop (mkF m 127 #[.val (.int p1), .val (.int p2), .val (.ref tb), .val (.int (p2 &&& (3 : Int32))), .val (.int ch), .unset] [(.int (45 : Int32)), (.int ch)])) (fun _ k => XS.bipush X1.here hx rfl (hb hby at_125) k) ?_
          by_cases hc127 : ch = (45 : Int32)
          · refine go (B := T1.setTop (mkF m 137 #[.val (.int p1), .val (.int p2), .val (.ref tb), .val (.int (p2 &&& (3 : Int32))), .val (.int ch), .unset] [])) (fun _ k => XS.icmpYes X1.here hx rfl (pc0 := 127) (pc' := 137) rfl (hb hby at_127) rfl (teq hc127).1 (by decide) (by decide) k) ?_
            refine go (B := T1.setTop (mkF m 139 #[.val (.int p1), .val (.int p2), .val (.ref tb), .val (.int (p2 &&& (3 : Int32))), .val (.int ch), .unset] [(.int (15 : Int32))])) (fun _ k => XS.bipush X1.here hx rfl (hb hby at_137) k) ?_
            refine go (B := T1.setTop (mkF m 141 #[.val (.int p1), .val (.int p2), .val (.ref tb), .val (.int (p2 &&& (3 : Int32))), .val (.int ch), .val (.int (15 : Int32))] [])) (fun _ k => XS.istore X1.here hx rfl (hb hby at_139) rfl (l' := #[.val (.int p1), .val (.int p2), .val (.ref tb), .val (.int (p2 &&& (3 : Int32))), .val (.int ch), .val (.int (15 : Int32))]) rfl k) ?_
            refine go (B := T1.setTop (mkF m 147 #[.val (.int p1), .val (.int p2), .val (.ref tb), .val (.int (p2 &&& (3 : Int32))), .val (.int ch), .val (.int (15 : Int32))] [])) (fun _ k => XS.goto X1.here hx rfl (pc0 := 141) (pc' := 147) rfl (hb hby at_141) (by decide) (by decide) k) ?_
            refine go (B := T1.setTop (mkF m 149 #[.val (.int p1), .val (.int p2), .val (.ref tb), .val (.int (p2 &&& (3 : Int32))), .val (.int ch), .val (.int (15 : Int32))] [(.int ch)])) (fun _ k => XS.iload X1.here hx rfl (hb hby at_147) rfl k) ?_
            obtain ⟨_, _, ⟨T10, L10, k10, n10⟩, -, X10, ⟨Lc10, hQ10, l10, y10, z10⟩, st10⟩ := Jvm.LawKit.callS X1 hx (y := (⟨"com/example/cladestream/cladestream/Alignment", "stateSet", "(C)I"⟩ : MethodName)) hown (mvT hZ (hw _ (List.mem_of_getElem? (i := 6) rfl))) (mvT hZ (hw _ (List.mem_of_getElem? (i := 7) rfl))) (mvT hZ (hw _ (List.mem_of_getElem? (i := 8) rfl))) (mvT hZ (hw _ (List.mem_of_getElem? (i := 9) rfl))) (by decide) (backOf (W := 0) (rm2 l Z a0 hw [] ch T1.heap n0 Zt) hZ (hw _ (List.mem_of_getElem? (i := 9) rfl)) (hw _ (List.mem_of_getElem? (i := 8) rfl)) (by decide) (by decide)) (g := (mkF m 149 #[.val (.int p1), .val (.int p2), .val (.ref tb), .val (.int (p2 &&& (3 : Int32))), .val (.int ch), .val (.int (15 : Int32))] [(.int ch)])) rfl (by rw [hml]; rfl) (argsL := [(.int ch)]) (rest := []) (lenOf pd__C_I rfl) rfl (by show 2 * 0 + _ ≤ _; exact Nat.le_of_eq rfl) (hb hby at_149) (fun _ _ => ⟨rfl, rfl, (by decide : 1 + 0 ≤ _), (by decide : 26 + 0 ≤ _)⟩)
            dsimp only [Pt.U, Pt.locs, Pt.cells, Pt.slots] at X10 l10 y10 z10 st10 hQ10
            subst l10 y10 z10
            obtain ⟨rfl, N10q, e10⟩ := hQ10
            have N10 := Fr.app N1 N10q
            refine go (B := T10.setTop (mkF m 152 #[.val (.int p1), .val (.int p2), .val (.ref tb), .val (.int (p2 &&& (3 : Int32))), .val (.int ch), .val (.int (15 : Int32))] [(.int (fSS ch))])) (fun _ k => st10 _ k) ?_
            refine go (B := T10.setTop (mkF m 154 #[.val (.int p1), .val (.int p2), .val (.ref tb), .val (.int (p2 &&& (3 : Int32))), .val (.int ch), .val (.int (15 : Int32))] [(.int (15 : Int32)), (.int (fSS ch))])) (fun _ k => XS.iload X10.here hx rfl (hb hby at_152) rfl k) ?_
            have hc154 : (fSS ch) = (15 : Int32) := by rw [hc127]; exact dash_ok.1
            refine go (B := T10.setTop (mkF m 157 #[.val (.int p1), .val (.int p2), .val (.ref tb), .val (.int (p2 &&& (3 : Int32))), .val (.int ch), .val (.int (15 : Int32))] [])) (fun _ k => XS.icmpNo X10.here hx rfl (hb hby at_154) rfl (teq hc154).2 k) ?_
            refine go (B := T10.setTop (mkF m 158 #[.val (.int p1), .val (.int p2), .val (.ref tb), .val (.int (p2 &&& (3 : Int32))), .val (.int ch), .val (.int (15 : Int32))] [(.int (1 : Int32))])) (fun _ k => XS.iconst X10.here hx rfl (hb hby at_157) k) ?_
            refine go (B := T10.setTop (mkF m 162 #[.val (.int p1), .val (.int p2), .val (.ref tb), .val (.int (p2 &&& (3 : Int32))), .val (.int ch), .val (.int (15 : Int32))] [(.int (1 : Int32))])) (fun _ k => XS.goto X10.here hx rfl (pc0 := 158) (pc' := 162) rfl (hb hby at_158) (by decide) (by decide) k) ?_
            refine goRetN X10 hx (t := .boolean) Bd.returns (by simp) hlk (hb hby at_162) ?_ (by decide) (by decide)
            rw [e10]
            exact ⟨rfl, N10⟩
          · refine go (B := T1.setTop (mkF m 130 #[.val (.int p1), .val (.int p2), .val (.ref tb), .val (.int (p2 &&& (3 : Int32))), .val (.int ch), .unset] [])) (fun _ k => XS.icmpNo X1.here hx rfl (hb hby at_127) rfl (feq hc127).1 k) ?_
            refine go (B := T1.setTop (mkF m 132 #[.val (.int p1), .val (.int p2), .val (.ref tb), .val (.int (p2 &&& (3 : Int32))), .val (.int ch), .unset] [(.int ch)])) (fun _ k => XS.iload X1.here hx rfl (hb hby at_130) rfl k) ?_
            refine go (B := T1.setTop (mkF m 134 #[.val (.int p1), .val (.int p2), .val (.ref tb), .val (.int (p2 &&& (3 : Int32))), .val (.int ch), .unset] [(.int (63 : Int32)), (.int ch)])) (fun _ k => XS.bipush X1.here hx rfl (hb hby at_132) k) ?_
            by_cases hc134 : ch = (63 : Int32)
            · refine go (B := T1.setTop (mkF m 137 #[.val (.int p1), .val (.int p2), .val (.ref tb), .val (.int (p2 &&& (3 : Int32))), .val (.int ch), .unset] [])) (fun _ k => XS.icmpNo X1.here hx rfl (hb hby at_134) rfl (teq hc134).2 k) ?_
              refine go (B := T1.setTop (mkF m 139 #[.val (.int p1), .val (.int p2), .val (.ref tb), .val (.int (p2 &&& (3 : Int32))), .val (.int ch), .unset] [(.int (15 : Int32))])) (fun _ k => XS.bipush X1.here hx rfl (hb hby at_137) k) ?_
              refine go (B := T1.setTop (mkF m 141 #[.val (.int p1), .val (.int p2), .val (.ref tb), .val (.int (p2 &&& (3 : Int32))), .val (.int ch), .val (.int (15 : Int32))] [])) (fun _ k => XS.istore X1.here hx rfl (hb hby at_139) rfl (l' := #[.val (.int p1), .val (.int p2), .val (.ref tb), .val (.int (p2 &&& (3 : Int32))), .val (.int ch), .val (.int (15 : Int32))]) rfl k) ?_
              refine go (B := T1.setTop (mkF m 147 #[.val (.int p1), .val (.int p2), .val (.ref tb), .val (.int (p2 &&& (3 : Int32))), .val (.int ch), .val (.int (15 : Int32))] [])) (fun _ k => XS.goto X1.here hx rfl (pc0 := 141) (pc' := 147) rfl (hb hby at_141) (by decide) (by decide) k) ?_
              refine go (B := T1.setTop (mkF m 149 #[.val (.int p1), .val (.int p2), .val (.ref tb), .val (.int (p2 &&& (3 : Int32))), .val (.int ch), .val (.int (15 : Int32))] [(.int ch)])) (fun _ k => XS.iload X1.here hx rfl (hb hby at_147) rfl k) ?_
              obtain ⟨_, _, ⟨T11, L11, k11, n11⟩, -, X11, ⟨Lc11, hQ11, l11, y11, z11⟩, st11⟩ := Jvm.LawKit.callS X1 hx (y := (⟨"com/example/cladestream/cladestream/Alignment", "stateSet", "(C)I"⟩ : MethodName)) hown (mvT hZ (hw _ (List.mem_of_getElem? (i := 6) rfl))) (mvT hZ (hw _ (List.mem_of_getElem? (i := 7) rfl))) (mvT hZ (hw _ (List.mem_of_getElem? (i := 8) rfl))) (mvT hZ (hw _ (List.mem_of_getElem? (i := 9) rfl))) (by decide) (backOf (W := 0) (rm2 l Z a0 hw [] ch T1.heap n0 Zt) hZ (hw _ (List.mem_of_getElem? (i := 9) rfl)) (hw _ (List.mem_of_getElem? (i := 8) rfl)) (by decide) (by decide)) (g := (mkF m 149 #[.val (.int p1), .val (.int p2), .val (.ref tb), .val (.int (p2 &&& (3 : Int32))), .val (.int ch), .val (.int (15 : Int32))] [(.int ch)])) rfl (by rw [hml]; rfl) (argsL := [(.int ch)]) (rest := []) (lenOf pd__C_I rfl) rfl (by show 2 * 0 + _ ≤ _; exact Nat.le_of_eq rfl) (hb hby at_149) (fun _ _ => ⟨rfl, rfl, (by decide : 1 + 0 ≤ _), (by decide : 26 + 0 ≤ _)⟩)
              dsimp only [Pt.U, Pt.locs, Pt.cells, Pt.slots] at X11 l11 y11 z11 st11 hQ11
              subst l11 y11 z11
              obtain ⟨rfl, N11q, e11⟩ := hQ11
              have N11 := Fr.app N1 N11q
              refine go (B := T11.setTop (mkF m 152 #[.val (.int p1), .val (.int p2), .val (.ref tb), .val (.int (p2 &&& (3 : Int32))), .val (.int ch), .val (.int (15 : Int32))] [(.int (fSS ch))])) (fun _ k => st11 _ k) ?_
              refine go (B := T11.setTop (mkF m 154 #[.val (.int p1), .val (.int p2), .val (.ref tb), .val (.int (p2 &&& (3 : Int32))), .val (.int ch), .val (.int (15 : Int32))] [(.int (15 : Int32)), (.int (fSS ch))])) (fun _ k => XS.iload X11.here hx rfl (hb hby at_152) rfl k) ?_
              have hc154 : (fSS ch) = (15 : Int32) := by rw [hc134]; exact dash_ok.2
              refine go (B := T11.setTop (mkF m 157 #[.val (.int p1), .val (.int p2), .val (.ref tb), .val (.int (p2 &&& (3 : Int32))), .val (.int ch), .val (.int (15 : Int32))] [])) (fun _ k => XS.icmpNo X11.here hx rfl (hb hby at_154) rfl (teq hc154).2 k) ?_
              refine go (B := T11.setTop (mkF m 158 #[.val (.int p1), .val (.int p2), .val (.ref tb), .val (.int (p2 &&& (3 : Int32))), .val (.int ch), .val (.int (15 : Int32))] [(.int (1 : Int32))])) (fun _ k => XS.iconst X11.here hx rfl (hb hby at_157) k) ?_
              refine go (B := T11.setTop (mkF m 162 #[.val (.int p1), .val (.int p2), .val (.ref tb), .val (.int (p2 &&& (3 : Int32))), .val (.int ch), .val (.int (15 : Int32))] [(.int (1 : Int32))])) (fun _ k => XS.goto X11.here hx rfl (pc0 := 158) (pc' := 162) rfl (hb hby at_158) (by decide) (by decide) k) ?_
              refine goRetN X11 hx (t := .boolean) Bd.returns (by simp) hlk (hb hby at_162) ?_ (by decide) (by decide)
              rw [e11]
              exact ⟨rfl, N11⟩
            · refine go (B := T1.setTop (mkF m 144 #[.val (.int p1), .val (.int p2), .val (.ref tb), .val (.int (p2 &&& (3 : Int32))), .val (.int ch), .unset] [])) (fun _ k => XS.icmpYes X1.here hx rfl (pc0 := 134) (pc' := 144) rfl (hb hby at_134) rfl (feq hc134).2 (by decide) (by decide) k) ?_
              refine go (B := T1.setTop (mkF m 145 #[.val (.int p1), .val (.int p2), .val (.ref tb), .val (.int (p2 &&& (3 : Int32))), .val (.int ch), .unset] [(.int (-1 : Int32))])) (fun _ k => XS.iconst X1.here hx rfl (hb hby at_144) k) ?_
              refine go (B := T1.setTop (mkF m 147 #[.val (.int p1), .val (.int p2), .val (.ref tb), .val (.int (p2 &&& (3 : Int32))), .val (.int ch), .val (.int (-1 : Int32))] [])) (fun _ k => XS.istore X1.here hx rfl (hb hby at_145) rfl (l' := #[.val (.int p1), .val (.int p2), .val (.ref tb), .val (.int (p2 &&& (3 : Int32))), .val (.int ch), .val (.int (-1 : Int32))]) rfl k) ?_
              refine go (B := T1.setTop (mkF m 149 #[.val (.int p1), .val (.int p2), .val (.ref tb), .val (.int (p2 &&& (3 : Int32))), .val (.int ch), .val (.int (-1 : Int32))] [(.int ch)])) (fun _ k => XS.iload X1.here hx rfl (hb hby at_147) rfl k) ?_
              obtain ⟨_, _, ⟨T12, L12, k12, n12⟩, -, X12, ⟨Lc12, hQ12, l12, y12, z12⟩, st12⟩ := Jvm.LawKit.callS X1 hx (y := (⟨"com/example/cladestream/cladestream/Alignment", "stateSet", "(C)I"⟩ : MethodName)) hown (mvT hZ (hw _ (List.mem_of_getElem? (i := 6) rfl))) (mvT hZ (hw _ (List.mem_of_getElem? (i := 7) rfl))) (mvT hZ (hw _ (List.mem_of_getElem? (i := 8) rfl))) (mvT hZ (hw _ (List.mem_of_getElem? (i := 9) rfl))) (by decide) (backOf (W := 0) (rm2 l Z a0 hw [] ch T1.heap n0 Zt) hZ (hw _ (List.mem_of_getElem? (i := 9) rfl)) (hw _ (List.mem_of_getElem? (i := 8) rfl)) (by decide) (by decide)) (g := (mkF m 149 #[.val (.int p1), .val (.int p2), .val (.ref tb), .val (.int (p2 &&& (3 : Int32))), .val (.int ch), .val (.int (-1 : Int32))] [(.int ch)])) rfl (by rw [hml]; rfl) (argsL := [(.int ch)]) (rest := []) (lenOf pd__C_I rfl) rfl (by show 2 * 0 + _ ≤ _; exact Nat.le_of_eq rfl) (hb hby at_149) (fun _ _ => ⟨rfl, rfl, (by decide : 1 + 0 ≤ _), (by decide : 26 + 0 ≤ _)⟩)
              dsimp only [Pt.U, Pt.locs, Pt.cells, Pt.slots] at X12 l12 y12 z12 st12 hQ12
              subst l12 y12 z12
              obtain ⟨rfl, N12q, e12⟩ := hQ12
              have N12 := Fr.app N1 N12q
              refine go (B := T12.setTop (mkF m 152 #[.val (.int p1), .val (.int p2), .val (.ref tb), .val (.int (p2 &&& (3 : Int32))), .val (.int ch), .val (.int (-1 : Int32))] [(.int (fSS ch))])) (fun _ k => st12 _ k) ?_
              refine go (B := T12.setTop (mkF m 154 #[.val (.int p1), .val (.int p2), .val (.ref tb), .val (.int (p2 &&& (3 : Int32))), .val (.int ch), .val (.int (-1 : Int32))] [(.int (-1 : Int32)), (.int (fSS ch))])) (fun _ k => XS.iload X12.here hx rfl (hb hby at_152) rfl k) ?_
              have hc154 : (fSS ch) = (-1 : Int32) := by simp only [Int32.lt_iff_toInt_lt, Int64.lt_iff_toInt_lt, ← Int32.toInt_inj, ← Int64.toInt_inj, Int32.reduceToInt, Int64.reduceToInt] at hc75 hc82 hc101 hc127 hc134; exact none_ok (by omega) (by omega) (by omega) (by omega)
              refine go (B := T12.setTop (mkF m 157 #[.val (.int p1), .val (.int p2), .val (.ref tb), .val (.int (p2 &&& (3 : Int32))), .val (.int ch), .val (.int (-1 : Int32))] [])) (fun _ k => XS.icmpNo X12.here hx rfl (hb hby at_154) rfl (teq hc154).2 k) ?_
              refine go (B := T12.setTop (mkF m 158 #[.val (.int p1), .val (.int p2), .val (.ref tb), .val (.int (p2 &&& (3 : Int32))), .val (.int ch), .val (.int (-1 : Int32))] [(.int (1 : Int32))])) (fun _ k => XS.iconst X12.here hx rfl (hb hby at_157) k) ?_
              refine go (B := T12.setTop (mkF m 162 #[.val (.int p1), .val (.int p2), .val (.ref tb), .val (.int (p2 &&& (3 : Int32))), .val (.int ch), .val (.int (-1 : Int32))] [(.int (1 : Int32))])) (fun _ k => XS.goto X12.here hx rfl (pc0 := 158) (pc' := 162) rfl (hb hby at_158) (by decide) (by decide) k) ?_
              refine goRetN X12 hx (t := .boolean) Bd.returns (by simp) hlk (hb hby at_162) ?_ (by decide) (by decide)
              rw [e12]
              exact ⟨rfl, N12⟩
        · refine go (B := T1.setTop (mkF m 104 #[.val (.int p1), .val (.int p2), .val (.ref tb), .val (.int (p2 &&& (3 : Int32))), .val (.int ch), .unset] [])) (fun _ k => XS.icmpNo X1.here hx rfl (hb hby at_101) rfl (flt hc101).1 k) ?_
          refine go (B := T1.setTop (mkF m 106 #[.val (.int p1), .val (.int p2), .val (.ref tb), .val (.int (p2 &&& (3 : Int32))), .val (.int ch), .unset] [(.int ch)])) (fun _ k => XS.iload X1.here hx rfl (hb hby at_104) rfl k) ?_
          refine go (B := T1.setTop (mkF m 108 #[.val (.int p1), .val (.int p2), .val (.ref tb), .val (.int (p2 &&& (3 : Int32))), .val (.int ch), .unset] [(.int (122 : Int32)), (.int ch)])) (fun _ k => XS.bipush X1.here hx rfl (hb hby at_106) k) ?_
          by_cases hc108 : (122 : Int32) < ch
          · refine go (B := T1.setTop (mkF m 123 #[.val (.int p1), .val (.int p2), .val (.ref tb), .val (.int (p2 &&& (3 : Int32))), .val (.int ch), .unset] [])) (fun _ k => XS.icmpYes X1.here hx rfl (pc0 := 108) (pc' := 123) rfl (hb hby at_108) rfl (tlt hc108).2.2.1 (by decide) (by decide) k) ?_
            refine go (B := T1.setTop (mkF m 125 #[.val (.int p1), .val (.int p2), .val (.ref tb), .val (.int (p2 &&& (3 : Int32))), .val (.int ch), .unset] [(.int ch)])) (fun _ k => XS.iload X1.here hx rfl (hb hby at_123) rfl k) ?_
            refine go (B := T1.setTop (mkF m 127 #[.val (.int p1), .val (.int p2), .val (.ref tb), .val (.int (p2 &&& (3 : Int32))), .val (.int ch), .unset] [(.int (45 : Int32)), (.int ch)])) (fun _ k => XS.bipush X1.here hx rfl (hb hby at_125) k) ?_
            by_cases hc127 : ch = (45 : Int32)
            · refine go (B := T1.setTop (mkF m 137 #[.val (.int p1), .val (.int p2), .val (.ref tb), .val (.int (p2 &&& (3 : Int32))), .val (.int ch), .unset] [])) (fun _ k => XS.icmpYes X1.here hx rfl (pc0 := 127) (pc' := 137) rfl (hb hby at_127) rfl (teq hc127).1 (by decide) (by decide) k) ?_
              refine go (B := T1.setTop (mkF m 139 #[.val (.int p1), .val (.int p2), .val (.ref tb), .val (.int (p2 &&& (3 : Int32))), .val (.int ch), .unset] [(.int (15 : Int32))])) (fun _ k => XS.bipush X1.here hx rfl (hb hby at_137) k) ?_
              refine go (B := T1.setTop (mkF m 141 #[.val (.int p1), .val (.int p2), .val (.ref tb), .val (.int (p2 &&& (3 : Int32))), .val (.int ch), .val (.int (15 : Int32))] [])) (fun _ k => XS.istore X1.here hx rfl (hb hby at_139) rfl (l' := #[.val (.int p1), .val (.int p2), .val (.ref tb), .val (.int (p2 &&& (3 : Int32))), .val (.int ch), .val (.int (15 : Int32))]) rfl k) ?_
              refine go (B := T1.setTop (mkF m 147 #[.val (.int p1), .val (.int p2), .val (.ref tb), .val (.int (p2 &&& (3 : Int32))), .val (.int ch), .val (.int (15 : Int32))] [])) (fun _ k => XS.goto X1.here hx rfl (pc0 := 141) (pc' := 147) rfl (hb hby at_141) (by decide) (by decide) k) ?_
              refine go (B := T1.setTop (mkF m 149 #[.val (.int p1), .val (.int p2), .val (.ref tb), .val (.int (p2 &&& (3 : Int32))), .val (.int ch), .val (.int (15 : Int32))] [(.int ch)])) (fun _ k => XS.iload X1.here hx rfl (hb hby at_147) rfl k) ?_
              obtain ⟨_, _, ⟨T13, L13, k13, n13⟩, -, X13, ⟨Lc13, hQ13, l13, y13, z13⟩, st13⟩ := Jvm.LawKit.callS X1 hx (y := (⟨"com/example/cladestream/cladestream/Alignment", "stateSet", "(C)I"⟩ : MethodName)) hown (mvT hZ (hw _ (List.mem_of_getElem? (i := 6) rfl))) (mvT hZ (hw _ (List.mem_of_getElem? (i := 7) rfl))) (mvT hZ (hw _ (List.mem_of_getElem? (i := 8) rfl))) (mvT hZ (hw _ (List.mem_of_getElem? (i := 9) rfl))) (by decide) (backOf (W := 0) (rm2 l Z a0 hw [] ch T1.heap n0 Zt) hZ (hw _ (List.mem_of_getElem? (i := 9) rfl)) (hw _ (List.mem_of_getElem? (i := 8) rfl)) (by decide) (by decide)) (g := (mkF m 149 #[.val (.int p1), .val (.int p2), .val (.ref tb), .val (.int (p2 &&& (3 : Int32))), .val (.int ch), .val (.int (15 : Int32))] [(.int ch)])) rfl (by rw [hml]; rfl) (argsL := [(.int ch)]) (rest := []) (lenOf pd__C_I rfl) rfl (by show 2 * 0 + _ ≤ _; exact Nat.le_of_eq rfl) (hb hby at_149) (fun _ _ => ⟨rfl, rfl, (by decide : 1 + 0 ≤ _), (by decide : 26 + 0 ≤ _)⟩)
              dsimp only [Pt.U, Pt.locs, Pt.cells, Pt.slots] at X13 l13 y13 z13 st13 hQ13
              subst l13 y13 z13
              obtain ⟨rfl, N13q, e13⟩ := hQ13
              have N13 := Fr.app N1 N13q
              refine go (B := T13.setTop (mkF m 152 #[.val (.int p1), .val (.int p2), .val (.ref tb), .val (.int (p2 &&& (3 : Int32))), .val (.int ch), .val (.int (15 : Int32))] [(.int (fSS ch))])) (fun _ k => st13 _ k) ?_
              refine go (B := T13.setTop (mkF m 154 #[.val (.int p1), .val (.int p2), .val (.ref tb), .val (.int (p2 &&& (3 : Int32))), .val (.int ch), .val (.int (15 : Int32))] [(.int (15 : Int32)), (.int (fSS ch))])) (fun _ k => XS.iload X13.here hx rfl (hb hby at_152) rfl k) ?_
              have hc154 : (fSS ch) = (15 : Int32) := by rw [hc127]; exact dash_ok.1
              refine go (B := T13.setTop (mkF m 157 #[.val (.int p1), .val (.int p2), .val (.ref tb), .val (.int (p2 &&& (3 : Int32))), .val (.int ch), .val (.int (15 : Int32))] [])) (fun _ k => XS.icmpNo X13.here hx rfl (hb hby at_154) rfl (teq hc154).2 k) ?_
              refine go (B := T13.setTop (mkF m 158 #[.val (.int p1), .val (.int p2), .val (.ref tb), .val (.int (p2 &&& (3 : Int32))), .val (.int ch), .val (.int (15 : Int32))] [(.int (1 : Int32))])) (fun _ k => XS.iconst X13.here hx rfl (hb hby at_157) k) ?_
              refine go (B := T13.setTop (mkF m 162 #[.val (.int p1), .val (.int p2), .val (.ref tb), .val (.int (p2 &&& (3 : Int32))), .val (.int ch), .val (.int (15 : Int32))] [(.int (1 : Int32))])) (fun _ k => XS.goto X13.here hx rfl (pc0 := 158) (pc' := 162) rfl (hb hby at_158) (by decide) (by decide) k) ?_
              refine goRetN X13 hx (t := .boolean) Bd.returns (by simp) hlk (hb hby at_162) ?_ (by decide) (by decide)
              rw [e13]
              exact ⟨rfl, N13⟩
            · refine go (B := T1.setTop (mkF m 130 #[.val (.int p1), .val (.int p2), .val (.ref tb), .val (.int (p2 &&& (3 : Int32))), .val (.int ch), .unset] [])) (fun _ k => XS.icmpNo X1.here hx rfl (hb hby at_127) rfl (feq hc127).1 k) ?_
              refine go (B := T1.setTop (mkF m 132 #[.val (.int p1), .val (.int p2), .val (.ref tb), .val (.int (p2 &&& (3 : Int32))), .val (.int ch), .unset] [(.int ch)])) (fun _ k => XS.iload X1.here hx rfl (hb hby at_130) rfl k) ?_
              refine go (B := T1.setTop (mkF m 134 #[.val (.int p1), .val (.int p2), .val (.ref tb), .val (.int (p2 &&& (3 : Int32))), .val (.int ch), .unset] [(.int (63 : Int32)), (.int ch)])) (fun _ k => XS.bipush X1.here hx rfl (hb hby at_132) k) ?_
              by_cases hc134 : ch = (63 : Int32)
              · refine go (B := T1.setTop (mkF m 137 #[.val (.int p1), .val (.int p2), .val (.ref tb), .val (.int (p2 &&& (3 : Int32))), .val (.int ch), .unset] [])) (fun _ k => XS.icmpNo X1.here hx rfl (hb hby at_134) rfl (teq hc134).2 k) ?_
                refine go (B := T1.setTop (mkF m 139 #[.val (.int p1), .val (.int p2), .val (.ref tb), .val (.int (p2 &&& (3 : Int32))), .val (.int ch), .unset] [(.int (15 : Int32))])) (fun _ k => XS.bipush X1.here hx rfl (hb hby at_137) k) ?_
                refine go (B := T1.setTop (mkF m 141 #[.val (.int p1), .val (.int p2), .val (.ref tb), .val (.int (p2 &&& (3 : Int32))), .val (.int ch), .val (.int (15 : Int32))] [])) (fun _ k => XS.istore X1.here hx rfl (hb hby at_139) rfl (l' := #[.val (.int p1), .val (.int p2), .val (.ref tb), .val (.int (p2 &&& (3 : Int32))), .val (.int ch), .val (.int (15 : Int32))]) rfl k) ?_
                refine go (B := T1.setTop (mkF m 147 #[.val (.int p1), .val (.int p2), .val (.ref tb), .val (.int (p2 &&& (3 : Int32))), .val (.int ch), .val (.int (15 : Int32))] [])) (fun _ k => XS.goto X1.here hx rfl (pc0 := 141) (pc' := 147) rfl (hb hby at_141) (by decide) (by decide) k) ?_
                refine go (B := T1.setTop (mkF m 149 #[.val (.int p1), .val (.int p2), .val (.ref tb), .val (.int (p2 &&& (3 : Int32))), .val (.int ch), .val (.int (15 : Int32))] [(.int ch)])) (fun _ k => XS.iload X1.here hx rfl (hb hby at_147) rfl k) ?_
                obtain ⟨_, _, ⟨T14, L14, k14, n14⟩, -, X14, ⟨Lc14, hQ14, l14, y14, z14⟩, st14⟩ := Jvm.LawKit.callS X1 hx (y := (⟨"com/example/cladestream/cladestream/Alignment", "stateSet", "(C)I"⟩ : MethodName)) hown (mvT hZ (hw _ (List.mem_of_getElem? (i := 6) rfl))) (mvT hZ (hw _ (List.mem_of_getElem? (i := 7) rfl))) (mvT hZ (hw _ (List.mem_of_getElem? (i := 8) rfl))) (mvT hZ (hw _ (List.mem_of_getElem? (i := 9) rfl))) (by decide) (backOf (W := 0) (rm2 l Z a0 hw [] ch T1.heap n0 Zt) hZ (hw _ (List.mem_of_getElem? (i := 9) rfl)) (hw _ (List.mem_of_getElem? (i := 8) rfl)) (by decide) (by decide)) (g := (mkF m 149 #[.val (.int p1), .val (.int p2), .val (.ref tb), .val (.int (p2 &&& (3 : Int32))), .val (.int ch), .val (.int (15 : Int32))] [(.int ch)])) rfl (by rw [hml]; rfl) (argsL := [(.int ch)]) (rest := []) (lenOf pd__C_I rfl) rfl (by show 2 * 0 + _ ≤ _; exact Nat.le_of_eq rfl) (hb hby at_149) (fun _ _ => ⟨rfl, rfl, (by decide : 1 + 0 ≤ _), (by decide : 26 + 0 ≤ _)⟩)
                dsimp only [Pt.U, Pt.locs, Pt.cells, Pt.slots] at X14 l14 y14 z14 st14 hQ14
                subst l14 y14 z14
                obtain ⟨rfl, N14q, e14⟩ := hQ14
                have N14 := Fr.app N1 N14q
                refine go (B := T14.setTop (mkF m 152 #[.val (.int p1), .val (.int p2), .val (.ref tb), .val (.int (p2 &&& (3 : Int32))), .val (.int ch), .val (.int (15 : Int32))] [(.int (fSS ch))])) (fun _ k => st14 _ k) ?_
                refine go (B := T14.setTop (mkF m 154 #[.val (.int p1), .val (.int p2), .val (.ref tb), .val (.int (p2 &&& (3 : Int32))), .val (.int ch), .val (.int (15 : Int32))] [(.int (15 : Int32)), (.int (fSS ch))])) (fun _ k => XS.iload X14.here hx rfl (hb hby at_152) rfl k) ?_
                have hc154 : (fSS ch) = (15 : Int32) := by rw [hc134]; exact dash_ok.2
                refine go (B := T14.setTop (mkF m 157 #[.val (.int p1), .val (.int p2), .val (.ref tb), .val (.int (p2 &&& (3 : Int32))), .val (.int ch), .val (.int (15 : Int32))] [])) (fun _ k => XS.icmpNo X14.here hx rfl (hb hby at_154) rfl (teq hc154).2 k) ?_
                refine go (B := T14.setTop (mkF m 158 #[.val (.int p1), .val (.int p2), .val (.ref tb), .val (.int (p2 &&& (3 : Int32))), .val (.int ch), .val (.int (15 : Int32))] [(.int (1 : Int32))])) (fun _ k => XS.iconst X14.here hx rfl (hb hby at_157) k) ?_
                refine go (B := T14.setTop (mkF m 162 #[.val (.int p1), .val (.int p2), .val (.ref tb), .val (.int (p2 &&& (3 : Int32))), .val (.int ch), .val (.int (15 : Int32))] [(.int (1 : Int32))])) (fun _ k => XS.goto X14.here hx rfl (pc0 := 158) (pc' := 162) rfl (hb hby at_158) (by decide) (by decide) k) ?_
                refine goRetN X14 hx (t := .boolean) Bd.returns (by simp) hlk (hb hby at_162) ?_ (by decide) (by decide)
                rw [e14]
                exact ⟨rfl, N14⟩
              · refine go (B := T1.setTop (mkF m 144 #[.val (.int p1), .val (.int p2), .val (.ref tb), .val (.int (p2 &&& (3 : Int32))), .val (.int ch), .unset] [])) (fun _ k => XS.icmpYes X1.here hx rfl (pc0 := 134) (pc' := 144) rfl (hb hby at_134) rfl (feq hc134).2 (by decide) (by decide) k) ?_
                refine go (B := T1.setTop (mkF m 145 #[.val (.int p1), .val (.int p2), .val (.ref tb), .val (.int (p2 &&& (3 : Int32))), .val (.int ch), .unset] [(.int (-1 : Int32))])) (fun _ k => XS.iconst X1.here hx rfl (hb hby at_144) k) ?_
                refine go (B := T1.setTop (mkF m 147 #[.val (.int p1), .val (.int p2), .val (.ref tb), .val (.int (p2 &&& (3 : Int32))), .val (.int ch), .val (.int (-1 : Int32))] [])) (fun _ k => XS.istore X1.here hx rfl (hb hby at_145) rfl (l' := #[.val (.int p1), .val (.int p2), .val (.ref tb), .val (.int (p2 &&& (3 : Int32))), .val (.int ch), .val (.int (-1 : Int32))]) rfl k) ?_
                refine go (B := T1.setTop (mkF m 149 #[.val (.int p1), .val (.int p2), .val (.ref tb), .val (.int (p2 &&& (3 : Int32))), .val (.int ch), .val (.int (-1 : Int32))] [(.int ch)])) (fun _ k => XS.iload X1.here hx rfl (hb hby at_147) rfl k) ?_
                obtain ⟨_, _, ⟨T15, L15, k15, n15⟩, -, X15, ⟨Lc15, hQ15, l15, y15, z15⟩, st15⟩ := Jvm.LawKit.callS X1 hx (y := (⟨"com/example/cladestream/cladestream/Alignment", "stateSet", "(C)I"⟩ : MethodName)) hown (mvT hZ (hw _ (List.mem_of_getElem? (i := 6) rfl))) (mvT hZ (hw _ (List.mem_of_getElem? (i := 7) rfl))) (mvT hZ (hw _ (List.mem_of_getElem? (i := 8) rfl))) (mvT hZ (hw _ (List.mem_of_getElem? (i := 9) rfl))) (by decide) (backOf (W := 0) (rm2 l Z a0 hw [] ch T1.heap n0 Zt) hZ (hw _ (List.mem_of_getElem? (i := 9) rfl)) (hw _ (List.mem_of_getElem? (i := 8) rfl)) (by decide) (by decide)) (g := (mkF m 149 #[.val (.int p1), .val (.int p2), .val (.ref tb), .val (.int (p2 &&& (3 : Int32))), .val (.int ch), .val (.int (-1 : Int32))] [(.int ch)])) rfl (by rw [hml]; rfl) (argsL := [(.int ch)]) (rest := []) (lenOf pd__C_I rfl) rfl (by show 2 * 0 + _ ≤ _; exact Nat.le_of_eq rfl) (hb hby at_149) (fun _ _ => ⟨rfl, rfl, (by decide : 1 + 0 ≤ _), (by decide : 26 + 0 ≤ _)⟩)
                dsimp only [Pt.U, Pt.locs, Pt.cells, Pt.slots] at X15 l15 y15 z15 st15 hQ15
                subst l15 y15 z15
                obtain ⟨rfl, N15q, e15⟩ := hQ15
                have N15 := Fr.app N1 N15q
                refine go (B := T15.setTop (mkF m 152 #[.val (.int p1), .val (.int p2), .val (.ref tb), .val (.int (p2 &&& (3 : Int32))), .val (.int ch), .val (.int (-1 : Int32))] [(.int (fSS ch))])) (fun _ k => st15 _ k) ?_
                refine go (B := T15.setTop (mkF m 154 #[.val (.int p1), .val (.int p2), .val (.ref tb), .val (.int (p2 &&& (3 : Int32))), .val (.int ch), .val (.int (-1 : Int32))] [(.int (-1 : Int32)), (.int (fSS ch))])) (fun _ k => XS.iload X15.here hx rfl (hb hby at_152) rfl k) ?_
                have hc154 : (fSS ch) = (-1 : Int32) := by simp only [Int32.lt_iff_toInt_lt, Int64.lt_iff_toInt_lt, ← Int32.toInt_inj, ← Int64.toInt_inj, Int32.reduceToInt, Int64.reduceToInt] at hc75 hc82 hc101 hc108 hc127 hc134; exact none_ok (by omega) (by omega) (by omega) (by omega)
                refine go (B := T15.setTop (mkF m 157 #[.val (.int p1), .val (.int p2), .val (.ref tb), .val (.int (p2 &&& (3 : Int32))), .val (.int ch), .val (.int (-1 : Int32))] [])) (fun _ k => XS.icmpNo X15.here hx rfl (hb hby at_154) rfl (teq hc154).2 k) ?_
                refine go (B := T15.setTop (mkF m 158 #[.val (.int p1), .val (.int p2), .val (.ref tb), .val (.int (p2 &&& (3 : Int32))), .val (.int ch), .val (.int (-1 : Int32))] [(.int (1 : Int32))])) (fun _ k => XS.iconst X15.here hx rfl (hb hby at_157) k) ?_
                refine go (B := T15.setTop (mkF m 162 #[.val (.int p1), .val (.int p2), .val (.ref tb), .val (.int (p2 &&& (3 : Int32))), .val (.int ch), .val (.int (-1 : Int32))] [(.int (1 : Int32))])) (fun _ k => XS.goto X15.here hx rfl (pc0 := 158) (pc' := 162) rfl (hb hby at_158) (by decide) (by decide) k) ?_
                refine goRetN X15 hx (t := .boolean) Bd.returns (by simp) hlk (hb hby at_162) ?_ (by decide) (by decide)
                rw [e15]
                exact ⟨rfl, N15⟩
          · refine go (B := T1.setTop (mkF m 111 #[.val (.int p1), .val (.int p2), .val (.ref tb), .val (.int (p2 &&& (3 : Int32))), .val (.int ch), .unset] [])) (fun _ k => XS.icmpNo X1.here hx rfl (hb hby at_108) rfl (flt hc108).2.2.1 k) ?_
            refine go (B := T1.setTop (mkF m 112 #[.val (.int p1), .val (.int p2), .val (.ref tb), .val (.int (p2 &&& (3 : Int32))), .val (.int ch), .unset] [(.ref tb)])) (fun _ k => XS.aloadN X1.here hx rfl (hb hby at_111) rfl rfl k) ?_
            refine go (B := T1.setTop (mkF m 114 #[.val (.int p1), .val (.int p2), .val (.ref tb), .val (.int (p2 &&& (3 : Int32))), .val (.int ch), .unset] [(.int ch), (.ref tb)])) (fun _ k => XS.iload X1.here hx rfl (hb hby at_112) rfl k) ?_
            refine go (B := T1.setTop (mkF m 116 #[.val (.int p1), .val (.int p2), .val (.ref tb), .val (.int (p2 &&& (3 : Int32))), .val (.int ch), .unset] [(.int (97 : Int32)), (.int ch), (.ref tb)])) (fun _ k => XS.bipush X1.here hx rfl (hb hby at_114) k) ?_
            refine go (B := T1.setTop (mkF m 117 #[.val (.int p1), .val (.int p2), .val (.ref tb), .val (.int (p2 &&& (3 : Int32))), .val (.int ch), .unset] [(.int (ch - (97 : Int32))), (.ref tb)])) (fun _ k => XS.isub X1.here hx rfl (hb hby at_116) rfl k) ?_
            obtain ⟨cl16, Ar16, -, S16, M16, H16, -⟩ := V_tb
            have in16 : ¬ (ch - (97 : Int32)) < 0 ∧ (ch - (97 : Int32)) < 26 := by
              have c1 : (97 : Int32).toInt = 97 := by decide
              have c2 : (26 : Int32).toInt = 26 := by decide
              have c3 : (0 : Int32).toInt = 0 := by decide
              have q := idx (c := ch) (a := (97 : Int32))
              simp only [Int32.lt_iff_toInt_lt, Int64.lt_iff_toInt_lt, ← Int32.toInt_inj, ← Int64.toInt_inj, Int32.reduceToInt, Int64.reduceToInt] at hc75 hc82 hc101 hc108
              rw [c1] at q
              rw [Int32.lt_iff_toInt_lt, Int32.lt_iff_toInt_lt, c2, c3]
              have q' := q (by omega) (by omega)
              omega
            have hin16 := inb_of S16 in16
            refine go (B := T1.setTop (mkF m 118 #[.val (.int p1), .val (.int p2), .val (.ref tb), .val (.int (p2 &&& (3 : Int32))), .val (.int ch), .unset] [(.int (tbl.getD ((ch - (97 : Int32))).toNatClampNeg 0))])) (fun _ k => X1.iaload hx (j := (ch - (97 : Int32))) (v := (.int (tbl.getD ((ch - (97 : Int32))).toNatClampNeg 0))) Ar16.1 (State.isArrayOf_alike hZ.alike Ar16.2.1) Ar16.2.2 hin16 (tab_at H16 (Nat.lt_of_not_le fun q => hin16 (Or.inr q))) (g := (mkF m 117 #[.val (.int p1), .val (.int p2), .val (.ref tb), .val (.int (p2 &&& (3 : Int32))), .val (.int ch), .unset] [(.int (ch - (97 : Int32))), (.ref tb)])) rfl rfl (hb hby at_117) _ k) ?_
            refine go (B := T1.setTop (mkF m 120 #[.val (.int p1), .val (.int p2), .val (.ref tb), .val (.int (p2 &&& (3 : Int32))), .val (.int ch), .val (.int (tbl.getD ((ch - (97 : Int32))).toNatClampNeg 0))] [])) (fun _ k => XS.istore X1.here hx rfl (hb hby at_118) rfl (l' := #[.val (.int p1), .val (.int p2), .val (.ref tb), .val (.int (p2 &&& (3 : Int32))), .val (.int ch), .val (.int (tbl.getD ((ch - (97 : Int32))).toNatClampNeg 0))]) rfl k) ?_
            refine go (B := T1.setTop (mkF m 147 #[.val (.int p1), .val (.int p2), .val (.ref tb), .val (.int (p2 &&& (3 : Int32))), .val (.int ch), .val (.int (tbl.getD ((ch - (97 : Int32))).toNatClampNeg 0))] [])) (fun _ k => XS.goto X1.here hx rfl (pc0 := 120) (pc' := 147) rfl (hb hby at_120) (by decide) (by decide) k) ?_
            refine go (B := T1.setTop (mkF m 149 #[.val (.int p1), .val (.int p2), .val (.ref tb), .val (.int (p2 &&& (3 : Int32))), .val (.int ch), .val (.int (tbl.getD ((ch - (97 : Int32))).toNatClampNeg 0))] [(.int ch)])) (fun _ k => XS.iload X1.here hx rfl (hb hby at_147) rfl k) ?_
            obtain ⟨_, _, ⟨T17, L17, k17, n17⟩, -, X17, ⟨Lc17, hQ17, l17, y17, z17⟩, st17⟩ := Jvm.LawKit.callS X1 hx (y := (⟨"com/example/cladestream/cladestream/Alignment", "stateSet", "(C)I"⟩ : MethodName)) hown (mvT hZ (hw _ (List.mem_of_getElem? (i := 6) rfl))) (mvT hZ (hw _ (List.mem_of_getElem? (i := 7) rfl))) (mvT hZ (hw _ (List.mem_of_getElem? (i := 8) rfl))) (mvT hZ (hw _ (List.mem_of_getElem? (i := 9) rfl))) (by decide) (backOf (W := 0) (rm2 l Z a0 hw [] ch T1.heap n0 Zt) hZ (hw _ (List.mem_of_getElem? (i := 9) rfl)) (hw _ (List.mem_of_getElem? (i := 8) rfl)) (by decide) (by decide)) (g := (mkF m 149 #[.val (.int p1), .val (.int p2), .val (.ref tb), .val (.int (p2 &&& (3 : Int32))), .val (.int ch), .val (.int (tbl.getD ((ch - (97 : Int32))).toNatClampNeg 0))] [(.int ch)])) rfl (by rw [hml]; rfl) (argsL := [(.int ch)]) (rest := []) (lenOf pd__C_I rfl) rfl (by show 2 * 0 + _ ≤ _; exact Nat.le_of_eq rfl) (hb hby at_149) (fun _ _ => ⟨rfl, rfl, (by decide : 1 + 0 ≤ _), (by decide : 26 + 0 ≤ _)⟩)
            dsimp only [Pt.U, Pt.locs, Pt.cells, Pt.slots] at X17 l17 y17 z17 st17 hQ17
            subst l17 y17 z17
            obtain ⟨rfl, N17q, e17⟩ := hQ17
            have N17 := Fr.app N1 N17q
            refine go (B := T17.setTop (mkF m 152 #[.val (.int p1), .val (.int p2), .val (.ref tb), .val (.int (p2 &&& (3 : Int32))), .val (.int ch), .val (.int (tbl.getD ((ch - (97 : Int32))).toNatClampNeg 0))] [(.int (fSS ch))])) (fun _ k => st17 _ k) ?_
            refine go (B := T17.setTop (mkF m 154 #[.val (.int p1), .val (.int p2), .val (.ref tb), .val (.int (p2 &&& (3 : Int32))), .val (.int ch), .val (.int (tbl.getD ((ch - (97 : Int32))).toNatClampNeg 0))] [(.int (tbl.getD ((ch - (97 : Int32))).toNatClampNeg 0)), (.int (fSS ch))])) (fun _ k => XS.iload X17.here hx rfl (hb hby at_152) rfl k) ?_
            have hc154 : (fSS ch) = (tbl.getD ((ch - (97 : Int32))).toNatClampNeg 0) := by simp only [Int32.lt_iff_toInt_lt, Int64.lt_iff_toInt_lt, ← Int32.toInt_inj, ← Int64.toInt_inj, Int32.reduceToInt, Int64.reduceToInt] at hc75 hc82 hc101 hc108; exact lo_ok (by omega) (by omega)
            refine go (B := T17.setTop (mkF m 157 #[.val (.int p1), .val (.int p2), .val (.ref tb), .val (.int (p2 &&& (3 : Int32))), .val (.int ch), .val (.int (tbl.getD ((ch - (97 : Int32))).toNatClampNeg 0))] [])) (fun _ k => XS.icmpNo X17.here hx rfl (hb hby at_154) rfl (teq hc154).2 k) ?_
            refine go (B := T17.setTop (mkF m 158 #[.val (.int p1), .val (.int p2), .val (.ref tb), .val (.int (p2 &&& (3 : Int32))), .val (.int ch), .val (.int (tbl.getD ((ch - (97 : Int32))).toNatClampNeg 0))] [(.int (1 : Int32))])) (fun _ k => XS.iconst X17.here hx rfl (hb hby at_157) k) ?_
            refine go (B := T17.setTop (mkF m 162 #[.val (.int p1), .val (.int p2), .val (.ref tb), .val (.int (p2 &&& (3 : Int32))), .val (.int ch), .val (.int (tbl.getD ((ch - (97 : Int32))).toNatClampNeg 0))] [(.int (1 : Int32))])) (fun _ k => XS.goto X17.here hx rfl (pc0 := 158) (pc' := 162) rfl (hb hby at_158) (by decide) (by decide) k) ?_
            refine goRetN X17 hx (t := .boolean) Bd.returns (by simp) hlk (hb hby at_162) ?_ (by decide) (by decide)
            rw [e17]
            exact ⟨rfl, N17⟩
      · refine go (B := T1.setTop (mkF m 85 #[.val (.int p1), .val (.int p2), .val (.ref tb), .val (.int (p2 &&& (3 : Int32))), .val (.int ch), .unset] [])) (fun _ k => XS.icmpNo X1.here hx rfl (hb hby at_82) rfl (flt hc82).2.2.1 k) ?_
        refine go (B := T1.setTop (mkF m 86 #[.val (.int p1), .val (.int p2), .val (.ref tb), .val (.int (p2 &&& (3 : Int32))), .val (.int ch), .unset] [(.ref tb)])) (fun _ k => XS.aloadN X1.here hx rfl (hb hby at_85) rfl rfl k) ?_
        refine go (B := T1.setTop (mkF m 88 #[.val (.int p1), .val (.int p2), .val (.ref tb), .val (.int (p2 &&& (3 : Int32))), .val (.int ch), .unset] [(.int ch), (.ref tb)])) (fun _ k => XS.iload X1.here hx rfl (hb hby at_86) rfl k) ?_
        refine go (B := T1.setTop (mkF m 90 #[.val (.int p1), .val (.int p2), .val (.ref tb), .val (.int (p2 &&& (3 : Int32))), .val (.int ch), .unset] [(.int (65 : Int32)), (.int ch), (.ref tb)])) (fun _ k => XS.bipush X1.here hx rfl (hb hby at_88) k) ?_
        refine go (B := T1.setTop (mkF m 91 #[.val (.int p1), .val (.int p2), .val (.ref tb), .val (.int (p2 &&& (3 : Int32))), .val (.int ch), .unset] [(.int (ch - (65 : Int32))), (.ref tb)])) (fun _ k => XS.isub X1.here hx rfl (hb hby at_90) rfl k) ?_
        obtain ⟨cl18, Ar18, -, S18, M18, H18, -⟩ := V_tb
        have in18 : ¬ (ch - (65 : Int32)) < 0 ∧ (ch - (65 : Int32)) < 26 := by
          have c1 : (65 : Int32).toInt = 65 := by decide
          have c2 : (26 : Int32).toInt = 26 := by decide
          have c3 : (0 : Int32).toInt = 0 := by decide
          have q := idx (c := ch) (a := (65 : Int32))
          simp only [Int32.lt_iff_toInt_lt, Int64.lt_iff_toInt_lt, ← Int32.toInt_inj, ← Int64.toInt_inj, Int32.reduceToInt, Int64.reduceToInt] at hc75 hc82
          rw [c1] at q
          rw [Int32.lt_iff_toInt_lt, Int32.lt_iff_toInt_lt, c2, c3]
          have q' := q (by omega) (by omega)
          omega
        have hin18 := inb_of S18 in18
        refine go (B := T1.setTop (mkF m 92 #[.val (.int p1), .val (.int p2), .val (.ref tb), .val (.int (p2 &&& (3 : Int32))), .val (.int ch), .unset] [(.int (tbl.getD ((ch - (65 : Int32))).toNatClampNeg 0))])) (fun _ k => X1.iaload hx (j := (ch - (65 : Int32))) (v := (.int (tbl.getD ((ch - (65 : Int32))).toNatClampNeg 0))) Ar18.1 (State.isArrayOf_alike hZ.alike Ar18.2.1) Ar18.2.2 hin18 (tab_at H18 (Nat.lt_of_not_le fun q => hin18 (Or.inr q))) (g := (mkF m 91 #[.val (.int p1), .val (.int p2), .val (.ref tb), .val (.int (p2 &&& (3 : Int32))), .val (.int ch), .unset] [(.int (ch - (65 : Int32))), (.ref tb)])) rfl rfl (hb hby at_91) _ k) ?_
        refine go (B := T1.setTop (mkF m 94 #[.val (.int p1), .val (.int p2), .val (.ref tb), .val (.int (p2 &&& (3 : Int32))), .val (.int ch), .val (.int (tbl.getD ((ch - (65 : Int32))).toNatClampNeg 0))] [])) (fun _ k => XS.istore X1.here hx rfl (hb hby at_92) rfl (l' := #[.val (.int p1), .val (.int p2), .val (.ref tb), .val (.int (p2 &&& (3 : Int32))), .val (.int ch), .val (.int (tbl.getD ((ch - (65 : Int32))).toNatClampNeg 0))]) rfl k) ?_
        refine go (B := T1.setTop (mkF m 147 #[.val (.int p1), .val (.int p2), .val (.ref tb), .val (.int (p2 &&& (3 : Int32))), .val (.int ch), .val (.int (tbl.getD ((ch - (65 : Int32))).toNatClampNeg 0))] [])) (fun _ k => XS.goto X1.here hx rfl (pc0 := 94) (pc' := 147) rfl (hb hby at_94) (by decide) (by decide) k) ?_
        refine go (B := T1.setTop (mkF m 149 #[.val (.int p1), .val (.int p2), .val (.ref tb), .val (.int (p2 &&& (3 : Int32))), .val (.int ch), .val (.int (tbl.getD ((ch - (65 : Int32))).toNatClampNeg 0))] [(.int ch)])) (fun _ k => XS.iload X1.here hx rfl (hb hby at_147) rfl k) ?_
        obtain ⟨_, _, ⟨T19, L19, k19, n19⟩, -, X19, ⟨Lc19, hQ19, l19, y19, z19⟩, st19⟩ := Jvm.LawKit.callS X1 hx (y := (⟨"com/example/cladestream/cladestream/Alignment", "stateSet", "(C)I"⟩ : MethodName)) hown (mvT hZ (hw _ (List.mem_of_getElem? (i := 6) rfl))) (mvT hZ (hw _ (List.mem_of_getElem? (i := 7) rfl))) (mvT hZ (hw _ (List.mem_of_getElem? (i := 8) rfl))) (mvT hZ (hw _ (List.mem_of_getElem? (i := 9) rfl))) (by decide) (backOf (W := 0) (rm2 l Z a0 hw [] ch T1.heap n0 Zt) hZ (hw _ (List.mem_of_getElem? (i := 9) rfl)) (hw _ (List.mem_of_getElem? (i := 8) rfl)) (by decide) (by decide)) (g := (mkF m 149 #[.val (.int p1), .val (.int p2), .val (.ref tb), .val (.int (p2 &&& (3 : Int32))), .val (.int ch), .val (.int (tbl.getD ((ch - (65 : Int32))).toNatClampNeg 0))] [(.int ch)])) rfl (by rw [hml]; rfl) (argsL := [(.int ch)]) (rest := []) (lenOf pd__C_I rfl) rfl (by show 2 * 0 + _ ≤ _; exact Nat.le_of_eq rfl) (hb hby at_149) (fun _ _ => ⟨rfl, rfl, (by decide : 1 + 0 ≤ _), (by decide : 26 + 0 ≤ _)⟩)
        dsimp only [Pt.U, Pt.locs, Pt.cells, Pt.slots] at X19 l19 y19 z19 st19 hQ19
        subst l19 y19 z19
        obtain ⟨rfl, N19q, e19⟩ := hQ19
        have N19 := Fr.app N1 N19q
        refine go (B := T19.setTop (mkF m 152 #[.val (.int p1), .val (.int p2), .val (.ref tb), .val (.int (p2 &&& (3 : Int32))), .val (.int ch), .val (.int (tbl.getD ((ch - (65 : Int32))).toNatClampNeg 0))] [(.int (fSS ch))])) (fun _ k => st19 _ k) ?_
        refine go (B := T19.setTop (mkF m 154 #[.val (.int p1), .val (.int p2), .val (.ref tb), .val (.int (p2 &&& (3 : Int32))), .val (.int ch), .val (.int (tbl.getD ((ch - (65 : Int32))).toNatClampNeg 0))] [(.int (tbl.getD ((ch - (65 : Int32))).toNatClampNeg 0)), (.int (fSS ch))])) (fun _ k => XS.iload X19.here hx rfl (hb hby at_152) rfl k) ?_
        have hc154 : (fSS ch) = (tbl.getD ((ch - (65 : Int32))).toNatClampNeg 0) := by simp only [Int32.lt_iff_toInt_lt, Int64.lt_iff_toInt_lt, ← Int32.toInt_inj, ← Int64.toInt_inj, Int32.reduceToInt, Int64.reduceToInt] at hc75 hc82; exact up_ok (by omega) (by omega)
        refine go (B := T19.setTop (mkF m 157 #[.val (.int p1), .val (.int p2), .val (.ref tb), .val (.int (p2 &&& (3 : Int32))), .val (.int ch), .val (.int (tbl.getD ((ch - (65 : Int32))).toNatClampNeg 0))] [])) (fun _ k => XS.icmpNo X19.here hx rfl (hb hby at_154) rfl (teq hc154).2 k) ?_
        refine go (B := T19.setTop (mkF m 158 #[.val (.int p1), .val (.int p2), .val (.ref tb), .val (.int (p2 &&& (3 : Int32))), .val (.int ch), .val (.int (tbl.getD ((ch - (65 : Int32))).toNatClampNeg 0))] [(.int (1 : Int32))])) (fun _ k => XS.iconst X19.here hx rfl (hb hby at_157) k) ?_
        refine go (B := T19.setTop (mkF m 162 #[.val (.int p1), .val (.int p2), .val (.ref tb), .val (.int (p2 &&& (3 : Int32))), .val (.int ch), .val (.int (tbl.getD ((ch - (65 : Int32))).toNatClampNeg 0))] [(.int (1 : Int32))])) (fun _ k => XS.goto X19.here hx rfl (pc0 := 158) (pc' := 162) rfl (hb hby at_158) (by decide) (by decide) k) ?_
        refine goRetN X19 hx (t := .boolean) Bd.returns (by simp) hlk (hb hby at_162) ?_ (by decide) (by decide)
        rw [e19]
        exact ⟨rfl, N19⟩
  refine go (B := T1.setTop (mkF m 9 #[.val (.int p1), .val (.int p2), .val (.ref tb), .val (.int (p2 &&& (3 : Int32))), .unset, .unset] [(.int (p2 &&& (3 : Int32)))])) (fun _ k => XS.iloadN X1.here hx rfl (hb hby at_8) rfl k) ?_
  by_cases hc9 : (p2 &&& (3 : Int32)) = (0 : Int32)
  · refine go (B := T1.setTop (mkF m 12 #[.val (.int p1), .val (.int p2), .val (.ref tb), .val (.int (p2 &&& (3 : Int32))), .unset, .unset] [])) (fun _ k => XS.ifNo X1.here hx rfl (hb hby at_9) rfl ((if0 _ _).trans (teq hc9).2) k) ?_
    refine go (B := T1.setTop (mkF m 14 #[.val (.int p1), .val (.int p2), .val (.ref tb), .val (.int (p2 &&& (3 : Int32))), .unset, .unset] [(.int (65 : Int32))])) (fun _ k => XS.bipush X1.here hx rfl (hb hby at_12) k) ?_
    refine go (B := T1.setTop (mkF m 15 #[.val (.int p1), .val (.int p2), .val (.ref tb), .val (.int (p2 &&& (3 : Int32))), .unset, .unset] [(.int p1), (.int (65 : Int32))])) (fun _ k => XS.iloadN X1.here hx rfl (hb hby at_14) rfl k) ?_
    refine go (B := T1.setTop (mkF m 17 #[.val (.int p1), .val (.int p2), .val (.ref tb), .val (.int (p2 &&& (3 : Int32))), .unset, .unset] [(.int (2147483647 : Int32)), (.int p1), (.int (65 : Int32))])) (fun _ k => X1.ldcInt hx hown (mvT hZ (hw _ (List.mem_of_getElem? (i := 10) rfl))) (g := (mkF m 15 #[.val (.int p1), .val (.int p2), .val (.ref tb), .val (.int (p2 &&& (3 : Int32))), .unset, .unset] [(.int p1), (.int (65 : Int32))])) rfl (hb hby at_15) _ k) ?_
    refine go (B := T1.setTop (mkF m 18 #[.val (.int p1), .val (.int p2), .val (.ref tb), .val (.int (p2 &&& (3 : Int32))), .unset, .unset] [(.int (p1 &&& (2147483647 : Int32))), (.int (65 : Int32))])) (fun _ k => XS.iand X1.here hx rfl (hb hby at_17) rfl k) ?_
    refine go (B := T1.setTop (mkF m 20 #[.val (.int p1), .val (.int p2), .val (.ref tb), .val (.int (p2 &&& (3 : Int32))), .unset, .unset] [(.int (26 : Int32)), (.int (p1 &&& (2147483647 : Int32))), (.int (65 : Int32))])) (fun _ k => XS.bipush X1.here hx rfl (hb hby at_18) k) ?_
    refine go (B := T1.setTop (mkF m 21 #[.val (.int p1), .val (.int p2), .val (.ref tb), .val (.int (p2 &&& (3 : Int32))), .unset, .unset] [(.int ((p1 &&& (2147483647 : Int32)) % (26 : Int32))), (.int (65 : Int32))])) (fun _ k => iremM X1 hx rfl (hb hby at_20) rfl (by decide) k) ?_
    refine go (B := T1.setTop (mkF m 22 #[.val (.int p1), .val (.int p2), .val (.ref tb), .val (.int (p2 &&& (3 : Int32))), .unset, .unset] [(.int ((65 : Int32) + ((p1 &&& (2147483647 : Int32)) % (26 : Int32))))])) (fun _ k => XS.iadd X1.here hx rfl (hb hby at_21) rfl k) ?_
    refine go (B := T1.setTop (mkF m 23 #[.val (.int p1), .val (.int p2), .val (.ref tb), .val (.int (p2 &&& (3 : Int32))), .unset, .unset] [(.int (((65 : Int32) + ((p1 &&& (2147483647 : Int32)) % (26 : Int32))).toUInt32.toUInt16.toUInt32.toInt32))])) (fun _ k => XS.i2c X1.here hx rfl (hb hby at_22) rfl k) ?_
    refine go (B := T1.setTop (mkF m 25 #[.val (.int p1), .val (.int p2), .val (.ref tb), .val (.int (p2 &&& (3 : Int32))), .val (.int (((65 : Int32) + ((p1 &&& (2147483647 : Int32)) % (26 : Int32))).toUInt32.toUInt16.toUInt32.toInt32)), .unset] [])) (fun _ k => XS.istore X1.here hx rfl (hb hby at_23) rfl (l' := #[.val (.int p1), .val (.int p2), .val (.ref tb), .val (.int (p2 &&& (3 : Int32))), .val (.int (((65 : Int32) + ((p1 &&& (2147483647 : Int32)) % (26 : Int32))).toUInt32.toUInt16.toUInt32.toInt32)), .unset]) rfl k) ?_
    refine go (B := T1.setTop (mkF m 71 #[.val (.int p1), .val (.int p2), .val (.ref tb), .val (.int (p2 &&& (3 : Int32))), .val (.int (((65 : Int32) + ((p1 &&& (2147483647 : Int32)) % (26 : Int32))).toUInt32.toUInt16.toUInt32.toInt32)), .unset] [])) (fun _ k => XS.goto X1.here hx rfl (pc0 := 25) (pc' := 71) rfl (hb hby at_25) (by decide) (by decide) k) ?_
    exact tl71 _ (by have q1 := ch_int ((65 : Int32) + ((p1 &&& (2147483647 : Int32)) % (26 : Int32))).toUInt32.toUInt16; have q2 := (((65 : Int32) + ((p1 &&& (2147483647 : Int32)) % (26 : Int32))).toUInt32.toUInt16).toNat_lt; omega)
  · refine go (B := T1.setTop (mkF m 28 #[.val (.int p1), .val (.int p2), .val (.ref tb), .val (.int (p2 &&& (3 : Int32))), .unset, .unset] [])) (fun _ k => XS.ifYes X1.here hx rfl (pc0 := 9) (pc' := 28) rfl (hb hby at_9) rfl ((if0 _ _).trans (feq hc9).2) (by decide) (by decide) k) ?_
    refine go (B := T1.setTop (mkF m 29 #[.val (.int p1), .val (.int p2), .val (.ref tb), .val (.int (p2 &&& (3 : Int32))), .unset, .unset] [(.int (p2 &&& (3 : Int32)))])) (fun _ k => XS.iloadN X1.here hx rfl (hb hby at_28) rfl k) ?_
    refine go (B := T1.setTop (mkF m 30 #[.val (.int p1), .val (.int p2), .val (.ref tb), .val (.int (p2 &&& (3 : Int32))), .unset, .unset] [(.int (1 : Int32)), (.int (p2 &&& (3 : Int32)))])) (fun _ k => XS.iconst X1.here hx rfl (hb hby at_29) k) ?_
    by_cases hc30 : (p2 &&& (3 : Int32)) = (1 : Int32)
    · refine go (B := T1.setTop (mkF m 33 #[.val (.int p1), .val (.int p2), .val (.ref tb), .val (.int (p2 &&& (3 : Int32))), .unset, .unset] [])) (fun _ k => XS.icmpNo X1.here hx rfl (hb hby at_30) rfl (teq hc30).2 k) ?_
      refine go (B := T1.setTop (mkF m 35 #[.val (.int p1), .val (.int p2), .val (.ref tb), .val (.int (p2 &&& (3 : Int32))), .unset, .unset] [(.int (97 : Int32))])) (fun _ k => XS.bipush X1.here hx rfl (hb hby at_33) k) ?_
      refine go (B := T1.setTop (mkF m 36 #[.val (.int p1), .val (.int p2), .val (.ref tb), .val (.int (p2 &&& (3 : Int32))), .unset, .unset] [(.int p1), (.int (97 : Int32))])) (fun _ k => XS.iloadN X1.here hx rfl (hb hby at_35) rfl k) ?_
      refine go (B := T1.setTop (mkF m 38 #[.val (.int p1), .val (.int p2), .val (.ref tb), .val (.int (p2 &&& (3 : Int32))), .unset, .unset] [(.int (2147483647 : Int32)), (.int p1), (.int (97 : Int32))])) (fun _ k => X1.ldcInt hx hown (mvT hZ (hw _ (List.mem_of_getElem? (i := 10) rfl))) (g := (mkF m 36 #[.val (.int p1), .val (.int p2), .val (.ref tb), .val (.int (p2 &&& (3 : Int32))), .unset, .unset] [(.int p1), (.int (97 : Int32))])) rfl (hb hby at_36) _ k) ?_
      refine go (B := T1.setTop (mkF m 39 #[.val (.int p1), .val (.int p2), .val (.ref tb), .val (.int (p2 &&& (3 : Int32))), .unset, .unset] [(.int (p1 &&& (2147483647 : Int32))), (.int (97 : Int32))])) (fun _ k => XS.iand X1.here hx rfl (hb hby at_38) rfl k) ?_
      refine go (B := T1.setTop (mkF m 41 #[.val (.int p1), .val (.int p2), .val (.ref tb), .val (.int (p2 &&& (3 : Int32))), .unset, .unset] [(.int (26 : Int32)), (.int (p1 &&& (2147483647 : Int32))), (.int (97 : Int32))])) (fun _ k => XS.bipush X1.here hx rfl (hb hby at_39) k) ?_
      refine go (B := T1.setTop (mkF m 42 #[.val (.int p1), .val (.int p2), .val (.ref tb), .val (.int (p2 &&& (3 : Int32))), .unset, .unset] [(.int ((p1 &&& (2147483647 : Int32)) % (26 : Int32))), (.int (97 : Int32))])) (fun _ k => iremM X1 hx rfl (hb hby at_41) rfl (by decide) k) ?_
      refine go (B := T1.setTop (mkF m 43 #[.val (.int p1), .val (.int p2), .val (.ref tb), .val (.int (p2 &&& (3 : Int32))), .unset, .unset] [(.int ((97 : Int32) + ((p1 &&& (2147483647 : Int32)) % (26 : Int32))))])) (fun _ k => XS.iadd X1.here hx rfl (hb hby at_42) rfl k) ?_
      refine go (B := T1.setTop (mkF m 44 #[.val (.int p1), .val (.int p2), .val (.ref tb), .val (.int (p2 &&& (3 : Int32))), .unset, .unset] [(.int (((97 : Int32) + ((p1 &&& (2147483647 : Int32)) % (26 : Int32))).toUInt32.toUInt16.toUInt32.toInt32))])) (fun _ k => XS.i2c X1.here hx rfl (hb hby at_43) rfl k) ?_
      refine go (B := T1.setTop (mkF m 46 #[.val (.int p1), .val (.int p2), .val (.ref tb), .val (.int (p2 &&& (3 : Int32))), .val (.int (((97 : Int32) + ((p1 &&& (2147483647 : Int32)) % (26 : Int32))).toUInt32.toUInt16.toUInt32.toInt32)), .unset] [])) (fun _ k => XS.istore X1.here hx rfl (hb hby at_44) rfl (l' := #[.val (.int p1), .val (.int p2), .val (.ref tb), .val (.int (p2 &&& (3 : Int32))), .val (.int (((97 : Int32) + ((p1 &&& (2147483647 : Int32)) % (26 : Int32))).toUInt32.toUInt16.toUInt32.toInt32)), .unset]) rfl k) ?_
      refine go (B := T1.setTop (mkF m 71 #[.val (.int p1), .val (.int p2), .val (.ref tb), .val (.int (p2 &&& (3 : Int32))), .val (.int (((97 : Int32) + ((p1 &&& (2147483647 : Int32)) % (26 : Int32))).toUInt32.toUInt16.toUInt32.toInt32)), .unset] [])) (fun _ k => XS.goto X1.here hx rfl (pc0 := 46) (pc' := 71) rfl (hb hby at_46) (by decide) (by decide) k) ?_
      exact tl71 _ (by have q1 := ch_int ((97 : Int32) + ((p1 &&& (2147483647 : Int32)) % (26 : Int32))).toUInt32.toUInt16; have q2 := (((97 : Int32) + ((p1 &&& (2147483647 : Int32)) % (26 : Int32))).toUInt32.toUInt16).toNat_lt; omega)
    · refine go (B := T1.setTop (mkF m 49 #[.val (.int p1), .val (.int p2), .val (.ref tb), .val (.int (p2 &&& (3 : Int32))), .unset, .unset] [])) (fun _ k => XS.icmpYes X1.here hx rfl (pc0 := 30) (pc' := 49) rfl (hb hby at_30) rfl (feq hc30).2 (by decide) (by decide) k) ?_
      refine go (B := T1.setTop (mkF m 50 #[.val (.int p1), .val (.int p2), .val (.ref tb), .val (.int (p2 &&& (3 : Int32))), .unset, .unset] [(.int (p2 &&& (3 : Int32)))])) (fun _ k => XS.iloadN X1.here hx rfl (hb hby at_49) rfl k) ?_
      refine go (B := T1.setTop (mkF m 51 #[.val (.int p1), .val (.int p2), .val (.ref tb), .val (.int (p2 &&& (3 : Int32))), .unset, .unset] [(.int (2 : Int32)), (.int (p2 &&& (3 : Int32)))])) (fun _ k => XS.iconst X1.here hx rfl (hb hby at_50) k) ?_
      by_cases hc51 : (p2 &&& (3 : Int32)) = (2 : Int32)
      · refine go (B := T1.setTop (mkF m 54 #[.val (.int p1), .val (.int p2), .val (.ref tb), .val (.int (p2 &&& (3 : Int32))), .unset, .unset] [])) (fun _ k => XS.icmpNo X1.here hx rfl (hb hby at_51) rfl (teq hc51).2 k) ?_
        refine go (B := T1.setTop (mkF m 55 #[.val (.int p1), .val (.int p2), .val (.ref tb), .val (.int (p2 &&& (3 : Int32))), .unset, .unset] [(.int p1)])) (fun _ k => XS.iloadN X1.here hx rfl (hb hby at_54) rfl k) ?_
        refine go (B := T1.setTop (mkF m 57 #[.val (.int p1), .val (.int p2), .val (.ref tb), .val (.int (p2 &&& (3 : Int32))), .unset, .unset] [(.int (127 : Int32)), (.int p1)])) (fun _ k => XS.bipush X1.here hx rfl (hb hby at_55) k) ?_
        refine go (B := T1.setTop (mkF m 58 #[.val (.int p1), .val (.int p2), .val (.ref tb), .val (.int (p2 &&& (3 : Int32))), .unset, .unset] [(.int (p1 &&& (127 : Int32)))])) (fun _ k => XS.iand X1.here hx rfl (hb hby at_57) rfl k) ?_
        refine go (B := T1.setTop (mkF m 59 #[.val (.int p1), .val (.int p2), .val (.ref tb), .val (.int (p2 &&& (3 : Int32))), .unset, .unset] [(.int ((p1 &&& (127 : Int32)).toUInt32.toUInt16.toUInt32.toInt32))])) (fun _ k => XS.i2c X1.here hx rfl (hb hby at_58) rfl k) ?_
        refine go (B := T1.setTop (mkF m 61 #[.val (.int p1), .val (.int p2), .val (.ref tb), .val (.int (p2 &&& (3 : Int32))), .val (.int ((p1 &&& (127 : Int32)).toUInt32.toUInt16.toUInt32.toInt32)), .unset] [])) (fun _ k => XS.istore X1.here hx rfl (hb hby at_59) rfl (l' := #[.val (.int p1), .val (.int p2), .val (.ref tb), .val (.int (p2 &&& (3 : Int32))), .val (.int ((p1 &&& (127 : Int32)).toUInt32.toUInt16.toUInt32.toInt32)), .unset]) rfl k) ?_
        refine go (B := T1.setTop (mkF m 71 #[.val (.int p1), .val (.int p2), .val (.ref tb), .val (.int (p2 &&& (3 : Int32))), .val (.int ((p1 &&& (127 : Int32)).toUInt32.toUInt16.toUInt32.toInt32)), .unset] [])) (fun _ k => XS.goto X1.here hx rfl (pc0 := 61) (pc' := 71) rfl (hb hby at_61) (by decide) (by decide) k) ?_
        exact tl71 _ (by have q1 := ch_int (p1 &&& (127 : Int32)).toUInt32.toUInt16; have q2 := ((p1 &&& (127 : Int32)).toUInt32.toUInt16).toNat_lt; omega)
      · refine go (B := T1.setTop (mkF m 64 #[.val (.int p1), .val (.int p2), .val (.ref tb), .val (.int (p2 &&& (3 : Int32))), .unset, .unset] [])) (fun _ k => XS.icmpYes X1.here hx rfl (pc0 := 51) (pc' := 64) rfl (hb hby at_51) rfl (feq hc51).2 (by decide) (by decide) k) ?_
        refine go (B := T1.setTop (mkF m 65 #[.val (.int p1), .val (.int p2), .val (.ref tb), .val (.int (p2 &&& (3 : Int32))), .unset, .unset] [(.int p1)])) (fun _ k => XS.iloadN X1.here hx rfl (hb hby at_64) rfl k) ?_
        refine go (B := T1.setTop (mkF m 67 #[.val (.int p1), .val (.int p2), .val (.ref tb), .val (.int (p2 &&& (3 : Int32))), .unset, .unset] [(.int (65535 : Int32)), (.int p1)])) (fun _ k => X1.ldcInt hx hown (mvT hZ (hw _ (List.mem_of_getElem? (i := 5) rfl))) (g := (mkF m 65 #[.val (.int p1), .val (.int p2), .val (.ref tb), .val (.int (p2 &&& (3 : Int32))), .unset, .unset] [(.int p1)])) rfl (hb hby at_65) _ k) ?_
        refine go (B := T1.setTop (mkF m 68 #[.val (.int p1), .val (.int p2), .val (.ref tb), .val (.int (p2 &&& (3 : Int32))), .unset, .unset] [(.int (p1 &&& (65535 : Int32)))])) (fun _ k => XS.iand X1.here hx rfl (hb hby at_67) rfl k) ?_
        refine go (B := T1.setTop (mkF m 69 #[.val (.int p1), .val (.int p2), .val (.ref tb), .val (.int (p2 &&& (3 : Int32))), .unset, .unset] [(.int ((p1 &&& (65535 : Int32)).toUInt32.toUInt16.toUInt32.toInt32))])) (fun _ k => XS.i2c X1.here hx rfl (hb hby at_68) rfl k) ?_
        refine go (B := T1.setTop (mkF m 71 #[.val (.int p1), .val (.int p2), .val (.ref tb), .val (.int (p2 &&& (3 : Int32))), .val (.int ((p1 &&& (65535 : Int32)).toUInt32.toUInt16.toUInt32.toInt32)), .unset] [])) (fun _ k => XS.istore X1.here hx rfl (hb hby at_69) rfl (l' := #[.val (.int p1), .val (.int p2), .val (.ref tb), .val (.int (p2 &&& (3 : Int32))), .val (.int ((p1 &&& (65535 : Int32)).toUInt32.toUInt16.toUInt32.toInt32)), .unset]) rfl k) ?_
        exact tl71 _ (by have q1 := ch_int (p1 &&& (65535 : Int32)).toUInt32.toUInt16; have q2 := ((p1 &&& (65535 : Int32)).toUInt32.toUInt16).toNat_lt; omega)
set_option maxRecDepth 65536 in
set_option maxHeartbeats 40000000 in
theorem comes_1 {Post : Tables → Env → Array Value → State → Outcome → State → Prop} (hpost : ∀ tb e args s v u, (limb_1_1.after args s (.returned v) u = true ∧ limb_1_2.after args s (.returned v) u = true ∧ True) → FrameEnd s (.returned v) u (Jvm.fieldLocs frame_1_writes args s ++ Jvm.arrayLocs frame_1_arrays args s ++ Jvm.staticLocs frame_1_statics s) 16 128 → Post tb e args s (.returned v) u) :
    ArmFor flags0 classFile x code maxLocals ret World_1 tables_1 room_1 Calls_1 rest_1 Pre_1 Post := by
  intro l hfl _ _ p e ha hc hk s m args below hf hA hF happ hP
  obtain ⟨hcalls, hrest, hpre⟩ := hP
  obtain ⟨-, -, -, hnamed, -, -, -, hat⟩ := (Spec.applies_iff hf).mp happ
  obtain ⟨hg, hn⟩ := and_e (Cond.before_iff.mp (show (Jvm.Cond.and given_1 narrow_1).before args s = true from hpre))
  obtain ⟨hcnt, gg0⟩ := and_e hg
  obtain ⟨ga0, gg1⟩ := and_e gg0
  obtain ⟨w0, w1, rfl⟩ : ∃ w0 w1 : Value, args = #[w0, w1] := by
    have hs : args.size = 2 := by simpa [Cond.value, given_1] using hcnt
    obtain ⟨L⟩ := args
    match L, hs with
    | [w0, w1], _ => exact ⟨w0, w1, rfl⟩
  have hw := fun d (hd : d ∈ tables_1) => atoms_spec (ws := Jvm.Cond.code x code maxLocals ret :: tables_1) hat d (List.mem_cons_of_mem _ hd)
  have hfit : Fit s := fun {y c} hc i hi => by
    obtain ⟨ha, rfl⟩ := Array.getElem?_eq_some_iff.mp hc
    have q := List.all_eq_true.mp ((Array.all_eq_true_iff_forall_mem.mp hF) _ (Array.getElem_mem ha)) i (List.mem_range.mpr hi)
    simpa [Array.getElem?_eq_getElem hi] using q
  obtain ⟨i0, ei0⟩ := is_v ga0
  obtain rfl : w0 = (.int i0) := Option.some.inj ei0
  obtain ⟨i1, ei1⟩ := is_v gg1
  obtain rfl : w1 = (.int i1) := Option.some.inj ei1
  obtain ⟨n, o, h1, h2, h3, _, L, rfl, ⟨rfl, N⟩, hq⟩ := rm0 l s _ hw tables_1 i0 i1 s.heap s.heap.size (Nat.le_refl _) p e ha hc hk s m _ below hf ((Spec.applies_iff_loose hf).mp happ).1 ⟨rfl, State.Warmed39.refl s, rfl⟩ trivial
  refine ⟨n, _, h1, h2, h3, hpost _ _ _ _ _ _ ⟨Cond.after_iff.mpr rfl, Cond.after_iff.mpr (eq_i res_at (Term.int_eval (1)) rfl), trivial⟩ ⟨hq.1, hq.2.1, (hq.2.2.sift fun y hy => Or.inr (N y hy)).mono (by decide) (by decide)⟩⟩
theorem main_1_1 : Claimed_1_1 := comes_1 fun _ _ _ _ _ _ h hF => ⟨h.1, hF⟩
theorem main_1_2 : Claimed_1_2 := comes_1 fun _ _ _ _ _ _ h hF => ⟨h.2.1, hF⟩
end Jvm.Pilot.@@N@@
namespace Jvm.Pilot.@@N@@
open Jvm Jvm.ClassFile Sem Op Lib Jvm.Free Jvm.Stand Jvm.Pilot.@@N@@.Jvm.D
/-! MADE BY PROGRAM (witnessworld.py) out of the Statement's table words and the real class files: 9 classes; the members and pool entries that the words name. The judged class is class 1, her method 2. -/
namespace start1
open Jvm.ClassFile
def u (s : String) : CpInfo := .utf8 (stringToUtf16 s)
/-- a pool by its gaps: so many unusable entries, then the entry; so many at the end -/
def gap : Nat → List CpInfo → List CpInfo
  | 0, r => r
  | n + 1, r => .unusable :: gap n r
def poolList (es : List (Nat × CpInfo)) (last : Nat) : List CpInfo := es.foldr (fun e r => gap e.1 (e.2 :: r)) (gap last [])
def pool (es : List (Nat × CpInfo)) (last : Nat) : Array CpInfo := ⟨poolList es last⟩
def fileOf (pool : Array CpInfo) (this : Nat) (attrs : Array Attribute := #[]) (ms : Array MethodInfo := #[]) (fl : Nat := 33) (sup : Nat := 0) (ifs : Array Nat := #[]) (fds : Array FieldInfo := #[]) : ClassFile where
  minorVersion := 0
  majorVersion := 65
  constantPool := pool
  accessFlags := fl
  thisClass := this
  superClass := sup
  interfaces := ifs
  fields := fds
  methods := ms
  attributes := attrs
def plain (name : String) (sup : Option ClassId) : Class where
  name := name
  kind := .ordinary
  loader := none
  accessFlags := 33
  super := sup
  interfaces := #[]
  cf := none
  fields := #[]
  methods := #[]
  instanceTypes := #[]
  staticTypes := #[]
  resolved := #[]
  callSites := []
  init := .initialized
  statics := none
  mirror := none

def pool0 : Array CpInfo := pool [(5, u "<init>"), (0, u "()V"), (1, .class_ 10), (1, u "java/lang/Object")] 113

def k0m0 : Method := { name := "<init>", desc := "()V", sig := { parameters := [], returnType := none }, accessFlags := 1, code := none }
/-- java/lang/Object -/
def k0 : Class := { plain "java/lang/Object" none with
  accessFlags := 33
  interfaces := #[]
  cf := some (fileOf pool0 8 #[] #[{ accessFlags := 1, nameIndex := 5, descriptorIndex := 6, attributes := #[] }] 33 0 #[] #[])
  fields := #[]
  methods := #[k0m0]
  instanceTypes := #[]
  staticTypes := #[]
  resolved := Array.replicate 124 none
  statics := none }

def pool1 : Array CpInfo := pool [(2, .class_ 4), (1, u "java/lang/Object"), (0, u "<init>"), (0, u "()V"), (0, .methodref 8 9), (0, .class_ 10), (0, .nameAndType 11 12), (0, u "com/example/cladestream/cladestream/AlignmentStateSetPinLaw"), (0, u "letterTable"), (0, u "()[I"), (0, .integer 2147483647), (0, .integer 65535), (0, .class_ 16), (0, u "com/example/cladestream/cladestream/Alignment"), (0, .methodref 15 18), (0, .nameAndType 19 20), (0, u "stateSet"), (0, u "(C)I"), (2, u "law"), (0, u "(II)Z")] 5

def k1m0 : Method := { name := "<init>", desc := "()V", sig := { parameters := [], returnType := none }, accessFlags := 1, code := none }
def k1c1 : Code := { maxStack := 3, maxLocals := 1, code := method_2_code, exceptionTable := #[], attributes := #[] }
def k1m1 : Method := { name := "letterTable", desc := "()[I", sig := { parameters := [], returnType := some (.array .int) }, accessFlags := 10, code := some k1c1 }
def k1c2 : Code := { maxStack := 3, maxLocals := 6, code := code, exceptionTable := #[], attributes := #[] }
def k1m2 : Method := { name := "law", desc := "(II)Z", sig := { parameters := [.int, .int], returnType := some .boolean }, accessFlags := 9, code := some k1c2 }
/-- com/example/cladestream/cladestream/AlignmentStateSetPinLaw -/
def k1 : Class := { plain "com/example/cladestream/cladestream/AlignmentStateSetPinLaw" (some 0) with
  accessFlags := 49
  interfaces := #[]
  cf := some (fileOf pool1 8 #[] #[{ accessFlags := 1, nameIndex := 5, descriptorIndex := 6, attributes := #[] }, { accessFlags := 10, nameIndex := 11, descriptorIndex := 12, attributes := #[] }, { accessFlags := 9, nameIndex := 23, descriptorIndex := 24, attributes := #[] }] 49 2 #[] #[])
  fields := #[]
  methods := #[k1m0, k1m1, k1m2]
  instanceTypes := #[]
  staticTypes := #[]
  resolved := Array.replicate 30 none
  statics := none }

def pool2 : Array CpInfo := pool [(1, .class_ 2), (0, u "com/example/cladestream/cladestream/Alignment"), (1, .class_ 6), (1, u "java/lang/Object"), (43, u "names"), (0, u "Ljava/util/List;"), (16, u "[[B"), (2, u "rows"), (24, u "A"), (0, u "I"), (2, u "C"), (1, u "G"), (1, u "T"), (1, u "ANY"), (1, u "MIN_TAXA"), (13, u "stateSet"), (1, u "(C)I")] 47

def k2c0 : Code := { maxStack := 2, maxLocals := 2, code := prog_1_method_7_code, exceptionTable := #[], attributes := #[] }
def k2m0 : Method := { name := "stateSet", desc := "(C)I", sig := { parameters := [.char], returnType := some .int }, accessFlags := 8, code := some k2c0 }
/-- com/example/cladestream/cladestream/Alignment -/
def k2 : Class := { plain "com/example/cladestream/cladestream/Alignment" (some 0) with
  accessFlags := 48
  interfaces := #[]
  cf := some (fileOf pool2 1 #[] #[{ accessFlags := 8, nameIndex := 122, descriptorIndex := 124, attributes := #[] }] 48 4 #[] #[{ accessFlags := 24, nameIndex := 96, descriptorIndex := 97, attributes := #[] }, { accessFlags := 24, nameIndex := 100, descriptorIndex := 97, attributes := #[] }, { accessFlags := 24, nameIndex := 102, descriptorIndex := 97, attributes := #[] }, { accessFlags := 24, nameIndex := 104, descriptorIndex := 97, attributes := #[] }, { accessFlags := 24, nameIndex := 106, descriptorIndex := 97, attributes := #[] }, { accessFlags := 24, nameIndex := 108, descriptorIndex := 97, attributes := #[] }, { accessFlags := 18, nameIndex := 50, descriptorIndex := 51, attributes := #[] }, { accessFlags := 18, nameIndex := 71, descriptorIndex := 68, attributes := #[] }])
  fields := #[{ name := "A", type := .int, accessFlags := 24, slot := 0, constantValue := 0 }, { name := "C", type := .int, accessFlags := 24, slot := 1, constantValue := 0 }, { name := "G", type := .int, accessFlags := 24, slot := 2, constantValue := 0 }, { name := "T", type := .int, accessFlags := 24, slot := 3, constantValue := 0 }, { name := "ANY", type := .int, accessFlags := 24, slot := 4, constantValue := 0 }, { name := "MIN_TAXA", type := .int, accessFlags := 24, slot := 5, constantValue := 0 }, { name := "names", type := (.object "java/util/List"), accessFlags := 18, slot := 0, constantValue := 0 }, { name := "rows", type := (.array (.array .byte)), accessFlags := 18, slot := 1, constantValue := 0 }]
  methods := #[k2m0]
  instanceTypes := #[(.object "java/util/List"), (.array (.array .byte))]
  staticTypes := #[.int, .int, .int, .int, .int, .int]
  resolved := Array.replicate 172 none
  statics := none }

def pool3 : Array CpInfo := pool [(1, u "java/lang/Cloneable"), (0, .class_ 1), (0, u "java/lang/Object"), (0, .class_ 3)] 3

/-- java/lang/Cloneable -/
def k3 : Class := { plain "java/lang/Cloneable" (some 0) with
  accessFlags := 1537
  interfaces := #[]
  cf := some (fileOf pool3 2 #[] #[] 1537 4 #[] #[])
  fields := #[]
  methods := #[]
  instanceTypes := #[]
  staticTypes := #[]
  resolved := Array.replicate 8 none
  statics := none }

def pool4 : Array CpInfo := pool [(1, u "java/io/Serializable"), (0, .class_ 1), (0, u "java/lang/Object"), (0, .class_ 3)] 3

/-- java/io/Serializable -/
def k4 : Class := { plain "java/io/Serializable" (some 0) with
  accessFlags := 1537
  interfaces := #[]
  cf := some (fileOf pool4 2 #[] #[] 1537 4 #[] #[])
  fields := #[]
  methods := #[]
  instanceTypes := #[]
  staticTypes := #[]
  resolved := Array.replicate 8 none
  statics := none }

/-- the primitive byte -/
def k5 : Class := { plain "byte" none with kind := .primitive 'B', accessFlags := 0x411 }
/-- [B -/
def k6 : Class := { plain "[B" (some 0) with kind := .array 5 .byte, interfaces := #[3, 4], accessFlags := 1041 }

/-- the primitive int -/
def k7 : Class := { plain "int" none with kind := .primitive 'I', accessFlags := 0x411 }
/-- [I -/
def k8 : Class := { plain "[I" (some 0) with kind := .array 7 .int, interfaces := #[3, 4], accessFlags := 1041 }

def heap : Heap := #[]
def classes : Array Class := #[k0, k1, k2, k3, k4, k5, k6, k7, k8]
def interned : List (Array UInt16 × Addr) := []
def slotsUsed : Nat := 0
def theMethod : MethodId := ⟨1, 2⟩
def args0 : Array Value := #[.int 5, .int 7]
def aboutOver (below : List Frame) : State where
  vm := { classes := classes, interned := interned.toArray }
  heap := heap
  slotsUsed := slotsUsed
  threads := #[{ frames := .invoking theMethod args0 :: below }]
def below0 : List Frame := [.native { method := ⟨0, 0⟩, args := #[] }]
def about1 : State := aboutOver below0
def p0 : Program := .bare "" "" ""
def e0 : Env := launch0.env 0 0 0
theorem w_frames : about1.frames = Frame.invoking theMethod args0 :: below0 := rfl
set_option maxRecDepth 65536 in
theorem w_args : argsFit about1.vm theMethod args0 = true := by decide +kernel
set_option maxRecDepth 65536 in
theorem w_heap : heapFits about1 = true := by decide +kernel
set_option maxRecDepth 65536 in
theorem w_runnable : about1.curStatus? = some .runnable := by decide +kernel
set_option maxRecDepth 65536 in
theorem w_alone : about1.alone = true := by decide +kernel
set_option maxRecDepth 65536 in
theorem w_named : about1.methodNamed? x = some theMethod := by decide +kernel
set_option maxRecDepth 65536 in
theorem w_hears : about1.hears theMethod below0 = true := by decide +kernel
set_option maxRecDepth 65536 in
theorem w_ripe : about1.ripe theMethod args0 below0 = true := by decide +kernel
theorem w_running : about1.status = .running := rfl
set_option maxRecDepth 65536 in
theorem w_room : about1.hasRoom e0.platform room_1 = true :=
  launch0.hasRoom_least _ room_1 (by decide +kernel) (by decide +kernel) (by decide +kernel) (by decide +kernel) (by decide +kernel) (by decide +kernel)
theorem allAtoms_all (ts : List Jvm.Cond) (a : Array Jvm.Value) (st : Jvm.State) : (allAtoms ts).before a st = ts.all (fun c => c.before a st) := by
  induction ts with
  | nil => rfl
  | cons c t ih =>
    show (Jvm.Cond.and c (allAtoms t)).before a st = _
    rw [Jvm.Cond.before_and, ih, List.all_cons]
def words1 : List Jvm.Cond := Jvm.Cond.code x code maxLocals ret :: tables_1
/-- a 'code' word, met by the world's own term for the bytes: nothing is compared byte by byte -/
theorem code_word {y : MethodName} {bytes : ByteArray} {mx : Nat} {rt : Option FieldType} {a : Array Value} {s : State} {m : MethodId} {meth : Method} {c : Code} (h1 : s.methodNamed? y = some m) (h2 : s.vm.method? m = some meth) (h3 : meth.code = some c) (h4 : c.code = bytes)
    (h5 : (c.maxLocals == mx && c.exceptionTable.isEmpty && decide (c.maxStack ≤ mostOperands) && decide (meth.sig.returnType = rt) && !meth.locks && decide (parseMethodDescriptor y.desc = some meth.sig)) = true) : (Jvm.Cond.code y bytes mx rt).before a s = true := by
  simp only [Bool.and_eq_true, beq_iff_eq, Bool.not_eq_true', decide_eq_true_eq] at h5
  obtain ⟨⟨⟨⟨⟨g1, g2⟩, g3⟩, g4⟩, g5⟩, g6⟩ := h5
  simp [Cond.before, Cond.holds, Cond.value, h1, h2, h3, h4, g1, g2, g3, g4, g5, g6]
def isCode : Jvm.Cond → Bool
  | .code _ _ _ _ => true
  | _ => false
theorem all_split {L : List Jvm.Cond} {P : Jvm.Cond → Bool} (h1 : L.all (fun c => isCode c || P c) = true) (h2 : ∀ c ∈ L.filter isCode, P c = true) : L.all P = true := by
  refine List.all_eq_true.mpr fun c hc => ?_
  have h := List.all_eq_true.mp h1 c hc
  rcases Bool.eq_false_or_eq_true (isCode c) with hi | hi
  · exact h2 c (List.mem_filter.mpr ⟨hc, hi⟩)
  · simpa [hi] using h
set_option maxRecDepth 65536 in
theorem w_c0 : (Jvm.Cond.code x code maxLocals ret).before args0 about1 = true := code_word (m := ⟨1, 2⟩) (meth := k1m2) (c := k1c2) (by decide +kernel) rfl rfl rfl (by decide +kernel)
set_option maxRecDepth 65536 in
theorem w_c1 : (Jvm.Cond.code ({ cls := "com/example/cladestream/cladestream/AlignmentStateSetPinLaw", name := "letterTable", desc := "()[I" } : Jvm.MethodName) method_2_code (1 : Nat) (Option.some (Jvm.ClassFile.FieldType.array Jvm.ClassFile.FieldType.int))).before args0 about1 = true := code_word (m := ⟨1, 1⟩) (meth := k1m1) (c := k1c1) (by decide +kernel) rfl rfl rfl (by decide +kernel)
set_option maxRecDepth 65536 in
theorem w_c2 : (Jvm.Cond.code ({ cls := "com/example/cladestream/cladestream/Alignment", name := "stateSet", desc := "(C)I" } : Jvm.MethodName) prog_1_method_7_code (2 : Nat) (Option.some Jvm.ClassFile.FieldType.int)).before args0 about1 = true := code_word (m := ⟨2, 0⟩) (meth := k2m0) (c := k2c0) (by decide +kernel) rfl rfl rfl (by decide +kernel)
def codes1 : List Jvm.Cond := [Jvm.Cond.code x code maxLocals ret, Jvm.Cond.code ({ cls := "com/example/cladestream/cladestream/AlignmentStateSetPinLaw", name := "letterTable", desc := "()[I" } : Jvm.MethodName) method_2_code (1 : Nat) (Option.some (Jvm.ClassFile.FieldType.array Jvm.ClassFile.FieldType.int)), Jvm.Cond.code ({ cls := "com/example/cladestream/cladestream/Alignment", name := "stateSet", desc := "(C)I" } : Jvm.MethodName) prog_1_method_7_code (2 : Nat) (Option.some Jvm.ClassFile.FieldType.int)]
set_option maxRecDepth 65536 in
theorem codes_eq : words1.filter isCode = codes1 := rfl
theorem w_codes : ∀ c ∈ words1.filter isCode, c.before args0 about1 = true := by
  rw [codes_eq]
  intro c hc
  simp only [codes1, List.mem_cons, List.not_mem_nil, or_false] at hc
  rcases hc with rfl | rfl | rfl
  · exact w_c0
  · exact w_c1
  · exact w_c2
set_option maxRecDepth 65536 in
theorem w_t1 : words1.all (fun c => isCode c || c.before args0 about1) = true := by decide +kernel
theorem w_tables : (allAtoms (Jvm.Cond.code x code maxLocals ret :: tables_1)).before args0 about1 = true := by
  rw [allAtoms_all]
  show words1.all (fun c => c.before args0 about1) = true
  refine all_split ?_ w_codes
  rw [w_t1]
set_option maxRecDepth 65536 in
theorem w_case : (Jvm.Cond.and given_1 narrow_1).before args0 about1 = true := by decide +kernel
theorem w_applies : (headSpec (Jvm.Cond.code x code maxLocals ret :: tables_1) room_1).applies x e0.platform about1 = true :=
  (Spec.applies_iff w_frames).mpr ⟨w_running, w_runnable, w_alone, w_named, w_hears, w_ripe, w_room, w_tables⟩
theorem atStart : AtStart classFile x code maxLocals ret World_1 tables_1 room_1 Calls_1 rest_1 Pre_1 launch0 p0 e0 about1 theMethod args0 below0 :=
  ⟨lists_1, trivial, launch0.admits_env _ _ _, launch0.least_env, fairChoices_fair.cas, fairChoices_fair.clock, w_frames, w_args, w_heap, w_applies, trivial, trivial, w_case⟩
end start1
theorem witness_1 : WitnessClaimed_1 := ⟨start1.p0, start1.e0, start1.about1, start1.theMethod, start1.args0, start1.below0, start1.atStart⟩
end Jvm.Pilot.@@N@@
