/-
  The proof of 'Rows.FnMayRevisionsAreAPointOrARaySaid': the walk is typed by hand, one theorem a way; the row's step is the skeleton tool's.
-/
import Derived.Test.Qxb6604026aModsMay
import Derived.WalkKit
import Derived.ProofKit
import Derived.OpenShut
import Derived.ShutString
namespace Go.Proofs.Qxb6604026aMods.fnMayRevisionsAreAPointOrARay
open Go.ChangeShapes Go.WideShapes Go.ChangeAt Go.RowKit
open Go.ChangeMaps (open_string shut_string)
set_option linter.unusedVariables false      -- a walk need not use every 'w<i>' (that an integer argument fits its kind)

theorem own : ownKnob Trym.prog.godebug = none := by kernel_rfl

/-! ### STEP 1: THE WALK, one theorem a way -/
theorem may_none (rev : Int) (ex : Bool) (q : Int) : mayB false rev ex true q = false := rfl
theorem may_exact {rev q : Int} {b : Bool} (h : (q == rev) = b) : mayB true rev true true q = b := h
theorem may_past {rev q : Int} {b : Bool} (h : decide (rev < q) = b) : mayB true rev false true q = b := h

/-- too long: true at once -/
theorem walk_long (a0 : ByteArray) (a1 : Bool) (a2 : Int) (a3 : Bool) (a4 : Int) (a5 : Int) (hs : ¬ a0.size ≤ 1048576) (w : World) :
    Calls Trym.prog 3 #[.string a0, .bool a1, .int .u64 a2, .bool a3, .int .u64 a4, .int .u64 a5] w fun e w' => e = .returned (.bool true) ∧ Grown w w' := by
  go_enter Trym.func3, Trym.ntmps3
  go_wp2_with fail
  refine (bytesMay_no _ _ _ _ _ _ _ hs).mono ?_
  rintro e w' ⟨rfl, rfl⟩
  go_wp2
  go_ret
  exact ⟨rfl, Grown.refl _⟩

set_option maxHeartbeats 400000 in
/-- the key is not there -/
theorem walk_absent (a0 : ByteArray) (a2 : Int) (a3 : Bool) (a4 : Int) (a5 : Int) (hs : a0.size ≤ 1048576) (w : World) :
    Calls Trym.prog 3 #[.string a0, .bool false, .int .u64 a2, .bool a3, .int .u64 a4, .int .u64 a5] w fun e w' => e = .returned (.bool true) ∧ Grown w w' := by
  cases a3
  all_goals
    go_enter Trym.func3, Trym.ntmps3
    go_wp2_with fail
    refine (bytesMay_yes _ _ _ _ _ _ _ hs).mono ?_
    rintro e w' ⟨rfl, rfl⟩
    go_wp2_with fail
    refine (keyMay_any _ _ _ _ _ _ false (may_none _ _ _) _).mono ?_
    rintro e w1 ⟨rfl, g1⟩
    go_wp2_with fail
    refine (keyMay_any _ _ _ _ _ _ false (may_none _ _ _) _).mono ?_
    rintro e w2 ⟨rfl, g2⟩
    go_wp2_with fail
    refine (keyMay_any _ _ _ _ _ _ false (may_none _ _ _) _).mono ?_
    rintro e w3 ⟨rfl, g3⟩
    go_wp2
    go_ret
    exact ⟨rfl, grown_trans (grown_trans g1 g2) g3⟩

set_option maxHeartbeats 800000 in
/-- the key is there at a known revision: 'ma', 'mb': whether a, b are that revision -/
theorem walk_exact (a0 : ByteArray) (a2 : Int) (a4 : Int) (a5 : Int) (hs : a0.size ≤ 1048576) (ma mb : Bool) (ha : Hid ((a4 == a2) = ma)) (hb : Hid ((a5 == a2) = mb)) (hab : ma = true → mb = true → (a4 != a5) = false) (w : World) :
    Calls Trym.prog 3 #[.string a0, .bool true, .int .u64 a2, .bool true, .int .u64 a4, .int .u64 a5] w fun e w' => e = .returned (.bool true) ∧ Grown w w' := by
  have hr : Hid ((a2 == a2) = true) := (by simp : (a2 == a2) = true)
  cases ma <;> cases mb <;> simp only [forall_const, reduceCtorEq, false_imp_iff] at hab
  all_goals
    go_enter Trym.func3, Trym.ntmps3
    go_wp2_with fail
    refine (bytesMay_yes _ _ _ _ _ _ _ hs).mono ?_
    rintro e w' ⟨rfl, rfl⟩
    go_wp2_with fail
    refine (keyMay_any _ _ _ _ _ _ _ (may_exact ha.out) _).mono ?_
    rintro e w1 ⟨rfl, g1⟩
    go_wp2_with fail
    refine (keyMay_any _ _ _ _ _ _ _ (may_exact hb.out) _).mono ?_
    rintro e w2 ⟨rfl, g2⟩
    go_wp2_with fail
    refine (keyMay_any _ _ _ _ _ _ _ (may_exact hr.out) _).mono ?_
    rintro e w3 ⟨rfl, g3⟩
    go_wp2
    go_ret
    exact ⟨rfl, grown_trans (grown_trans g1 g2) g3⟩

set_option maxHeartbeats 800000 in
/-- the key is there past a revision that is the last -/
theorem walk_last (a0 : ByteArray) (a2 : Int) (a4 : Int) (a5 : Int) (hs : a0.size ≤ 1048576) (ma mb : Bool) (ha : Hid (decide (a2 < a4) = ma)) (hb : Hid (decide (a2 < a5) = mb))
    (hc : ma = false ∨ (ma = true ∧ a2 < a4 ∧ (¬ a4 < a5 ∨ (a4 < a5 ∧ mb = true)))) (hlast : (a2 != 18446744073709551615) = false) (w : World) :
    Calls Trym.prog 3 #[.string a0, .bool true, .int .u64 a2, .bool false, .int .u64 a4, .int .u64 a5] w fun e w' => e = .returned (.bool true) ∧ Grown w w' := by
  have hr : Hid (decide (a2 < a2) = false) := (by simp : decide (a2 < a2) = false)
  rcases hc with rfl | ⟨rfl, hlt, hc | ⟨hc, rfl⟩⟩
  all_goals
    go_enter Trym.func3, Trym.ntmps3
    go_wp2_with fail
    refine (bytesMay_yes _ _ _ _ _ _ _ hs).mono ?_
    rintro e w' ⟨rfl, rfl⟩
    go_wp2_with fail
    refine (keyMay_any _ _ _ _ _ _ _ (may_past ha.out) _).mono ?_
    rintro e w1 ⟨rfl, g1⟩
    go_wp2_with fail
    refine (keyMay_any _ _ _ _ _ _ _ (may_past hb.out) _).mono ?_
    rintro e w2 ⟨rfl, g2⟩
    go_wp2_with fail
    refine (keyMay_any _ _ _ _ _ _ _ (may_past hr.out) _).mono ?_
    rintro e w3 ⟨rfl, g3⟩
    go_wp2
    go_ret
    exact ⟨rfl, grown_trans (grown_trans g1 g2) g3⟩

set_option maxHeartbeats 800000 in
/-- the key is there past a revision that is not the last -/
theorem walk_past (a0 : ByteArray) (a2 : Int) (a4 : Int) (a5 : Int) (hs : a0.size ≤ 1048576) (ma mb : Bool) (ha : Hid (decide (a2 < a4) = ma)) (hb : Hid (decide (a2 < a5) = mb))
    (hc : ma = false ∨ (ma = true ∧ a2 < a4 ∧ (¬ a4 < a5 ∨ (a4 < a5 ∧ mb = true)))) (hlast : (a2 != 18446744073709551615) = true) (h0 : 0 ≤ a2) (h1 : a2 < 18446744073709551615) (w : World) :
    Calls Trym.prog 3 #[.string a0, .bool true, .int .u64 a2, .bool false, .int .u64 a4, .int .u64 a5] w fun e w' => e = .returned (.bool true) ∧ Grown w w' := by
  have hr : Hid (decide (a2 < a2) = false) := (by simp : decide (a2 < a2) = false)
  have hn : Hid (decide (a2 < a2 + 1) = true) := (by simp; omega : decide (a2 < a2 + 1) = true)
  rcases hc with rfl | ⟨rfl, hlt, hc | ⟨hc, rfl⟩⟩
  all_goals
    go_enter Trym.func3, Trym.ntmps3
    go_wp2_with fail
    refine (bytesMay_yes _ _ _ _ _ _ _ hs).mono ?_
    rintro e w' ⟨rfl, rfl⟩
    go_wp2_with fail
    refine (keyMay_any _ _ _ _ _ _ _ (may_past ha.out) _).mono ?_
    rintro e w1 ⟨rfl, g1⟩
    go_wp2_with fail
    refine (keyMay_any _ _ _ _ _ _ _ (may_past hb.out) _).mono ?_
    rintro e w2 ⟨rfl, g2⟩
    go_wp2_with fail
    refine (keyMay_any _ _ _ _ _ _ _ (may_past hr.out) _).mono ?_
    rintro e w3 ⟨rfl, g3⟩
    go_wp2_with fail
    refine (keyMay_any _ _ _ _ _ _ _ (may_past hn.out) _).mono ?_
    rintro e w4 ⟨rfl, g4⟩
    go_wp2
    go_ret
    exact ⟨rfl, grown_trans (grown_trans (grown_trans g1 g2) g3) g4⟩

theorem walk (a0 : ByteArray) (a1 : Bool) (a2 : Int) (a3 : Bool) (a4 : Int) (a5 : Int) (w0 : a0.size ≤ maxLen) (w2 : (Lit.int .u64 a2).wf = true) (w4 : (Lit.int .u64 a4).wf = true) (w5 : (Lit.int .u64 a5).wf = true) (w : World) :
    Calls Trym.prog 3 #[.string a0, .bool a1, .int .u64 a2, .bool a3, .int .u64 a4, .int .u64 a5] w fun e w' => e = .returned (.bool true) ∧ Grown w w' := by
  by_cases hs : a0.size ≤ 1048576
  · have b2 := bounds_u64 w2
    cases a1
    · exact walk_absent a0 a2 a3 a4 a5 hs w
    · cases a3
      · have hc : decide (a2 < a4) = false ∨ (decide (a2 < a4) = true ∧ a2 < a4 ∧ (¬ a4 < a5 ∨ (a4 < a5 ∧ decide (a2 < a5) = true))) := by
          simp only [decide_eq_true_eq, decide_eq_false_iff_not]
          omega
        by_cases hl : a2 = 18446744073709551615
        · exact walk_last a0 a2 a4 a5 hs _ _ rfl rfl hc (by simp [hl]) w
        · exact walk_past a0 a2 a4 a5 hs _ _ rfl rfl hc (by simp [hl]) b2.1 (by omega) w
      · refine walk_exact a0 a2 a4 a5 hs _ _ rfl rfl ?_ w
        intro h1 h2
        simp only [beq_iff_eq] at h1 h2
        simp [h1, h2]
  · exact walk_long a0 a1 a2 a3 a4 a5 hs w

/-! ### THE ROW's STEP: WRITTEN OUT: LEAVE IT -/
set_option maxRecDepth 100000 in
theorem lifted (os : Os) (started : os.Started) (H : Type) (enc : TypeId × Value → H) :
    ReturnsInHanded {} Trym.checked os 3 .any (Rows.fnMayRevisionsAreAPointOrARaySpec.pre6 enc Trym.prog Trym.f3 Rows.fnMayRevisionsAreAPointOrARayRow.domain false) (Rows.fnMayRevisionsAreAPointOrARaySpec.post enc Trym.prog Trym.f3 false true false false) := by
  refine returnsInHanded_of_change (C := Trym.checked) own started (by kernel_rfl) Trym.func3
    (ChangeSpec.witness6 (enc := enc) (C := Trym.checked) false ⟨#[], #[.string ByteArray.empty, .bool false, .int .u64 0, .bool false, .int .u64 0, .int .u64 0], []⟩ 8 (by kernel_rfl) (by kernel_rfl) (by kernel_rfl) (by kernel_rfl)) ?_
  intro W base args ds gs before hval0 hW hcnd _
  have hval : ∀ (j : Nat) t v, Trym.f3.params[j]? = some t → args[j]? = some v → Value.okWide Trym.prog W .any base t v := hval0
  have hW' := hW
  obtain ⟨p, q, hA0, hV, rfl, hfz, hnd⟩ := hW
  have hA : DataW.TrodAll enc Trym.prog W 0 (fun _ => true) true Trym.f3.params.toList args.toList ds p := hA0
  rw [Trym.params3] at hA hval
  obtain ⟨v0, vs0, d0, ds0, p0, q0, hargs, rfl, rfl, h0, r0⟩ := trodAll_cons hA
  obtain ⟨v1, vs1, d1, ds1, p1, q1, rfl, rfl, rfl, h1, r1⟩ := trodAll_cons r0
  obtain ⟨v2, vs2, d2, ds2, p2, q2, rfl, rfl, rfl, h2, r2⟩ := trodAll_cons r1
  obtain ⟨v3, vs3, d3, ds3, p3, q3, rfl, rfl, rfl, h3, r3⟩ := trodAll_cons r2
  obtain ⟨v4, vs4, d4, ds4, p4, q4, rfl, rfl, rfl, h4, r4⟩ := trodAll_cons r3
  obtain ⟨v5, vs5, d5, ds5, p5, q5, rfl, rfl, rfl, h5, r5⟩ := trodAll_cons r4
  obtain ⟨rfl, rfl, rfl⟩ := trodAll_nil r5
  obtain rfl : args = #[v0, v1, v2, v3, v4, v5] := by cases args; simp_all
  obtain ⟨rfl, rfl⟩ := trodVars_none hV
  obtain ⟨a0, rfl, rfl, rfl, w0⟩ := open_string Trym.underlying9 (hval 0 9 v0 rfl rfl) h0
  obtain ⟨a1, rfl, rfl, rfl⟩ := open_bool Trym.underlying4 (hval 1 4 v1 rfl rfl) h1
  obtain ⟨a2, rfl, rfl, rfl, w2⟩ := open_int Trym.underlying22 (hval 2 22 v2 rfl rfl) h2
  obtain ⟨a3, rfl, rfl, rfl⟩ := open_bool Trym.underlying4 (hval 3 4 v3 rfl rfl) h3
  obtain ⟨a4, rfl, rfl, rfl, w4⟩ := open_int Trym.underlying22 (hval 4 22 v4 rfl rfl) h4
  obtain ⟨a5, rfl, rfl, rfl, w5⟩ := open_int Trym.underlying22 (hval 5 22 v5 rfl rfl) h5
  clear hA0 hval0
  simp only [List.append_nil] at hW'
  refine (walk a0 a1 a2 a3 a4 a5 w0 w2 w4 w5 W).mono fun e W' ⟨he, hg⟩ => ?_
  subst he
  exact ⟨_, rfl, post_of_same (pa := []) (pv := []) hW' (fun _ _ _ => (trodAll_cons_mk (shut_bool Trym.underlying4 _) trodAll_mk0)) (fun sp _ => (trodAll_cons_mk (shut_string Trym.underlying9 w0) (trodAll_cons_mk (shut_bool Trym.underlying4 _) (trodAll_cons_mk (shut_int Trym.underlying22 w2) (trodAll_cons_mk (shut_bool Trym.underlying4 _) (trodAll_cons_mk (shut_int Trym.underlying22 w4) (trodAll_cons_mk (shut_int Trym.underlying22 w5) trodAll_mk0))))))) (fun _ _ => rfl) rfl
    (hg.frame _) hg.2.1 (ok_one (by kernel_rfl) rfl (okWide_bool_mk Trym.underlying4 _))⟩

theorem over : Rows.fnMayRevisionsAreAPointOrARayRow.holds Trym.pinned (OpenSpec.ofChange Rows.fnMayRevisionsAreAPointOrARaySpec) :=
  OpenClaim.holds_of_wide 3 Trym.f3 rfl rfl rfl rfl rfl rfl rfl ⟨rfl, rfl, rfl, rfl, rfl⟩ rfl rfl rfl rfl rfl (by kernel_rfl) Trym.func3 (by kernel_rfl)
    (of_decide_eq_true (by kernel_rfl)) (by unfold Func.isWrapper; first | (rw [if_pos (by decide +kernel)]; kernel_rfl) | (rw [if_neg (by decide +kernel)]; exact ⟨rfl, rfl⟩))
    (fun os started H enc _ => lifted os started H enc)

/-- ████ THE STATEMENT ████ -/
theorem proved : Rows.FnMayRevisionsAreAPointOrARaySaid :=
  over
#print axioms proved
end Go.Proofs.Qxb6604026aMods.fnMayRevisionsAreAPointOrARay
