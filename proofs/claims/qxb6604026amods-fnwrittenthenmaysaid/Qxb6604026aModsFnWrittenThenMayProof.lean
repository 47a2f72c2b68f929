/-
  The proof of 'Rows.FnWrittenThenMaySaid': the row's step (the skeleton tool's frame, turned to ten parameters, one of them a struct by value) over the walk of WrittenLaw.
-/
import Derived.Test.Qxb6604026aModsWrittenLaw
import Derived.WalkKit
import Derived.ProofKit
import Derived.OpenShut
import Derived.ShutString
import Derived.Lib.SmallJoins
namespace Go.Proofs.Qxb6604026aMods.fnWrittenThenMay
open Go.ChangeShapes Go.WideShapes Go.ChangeAt Go.RowKit Go.Joins
open Go.ChangeMaps (open_string shut_string)
set_option linter.unusedVariables false

theorem own : ownKnob Trym.prog.godebug = none := by kernel_rfl
theorem cells26 : Trym.prog.cellsOf 26 = 4 := by kernel_rfl

set_option maxRecDepth 100000 in
theorem lifted (os : Os) (started : os.Started) (H : Type) (enc : TypeId × Value → H) :
    ReturnsInHanded {} Trym.checked os 4 .any (Rows.fnWrittenThenMaySpec.pre6 enc Trym.prog Trym.f4 Rows.fnWrittenThenMayRow.domain false) (Rows.fnWrittenThenMaySpec.post enc Trym.prog Trym.f4 false true false false) := by
  refine returnsInHanded_of_change (C := Trym.checked) own started (by kernel_rfl) Trym.func4
    (ChangeSpec.witness6 (enc := enc) (C := Trym.checked) false ⟨#[], #[.string ByteArray.empty, .bool false, .int .u64 0, .bool false, .string ByteArray.empty, .string ByteArray.empty, .string ByteArray.empty, .agg #[.bool false, .string ByteArray.empty, .bool false, .int .u64 0], .int .u64 0, .int .u64 0], []⟩ 8 (by kernel_rfl) (by kernel_rfl) (by kernel_rfl) (by kernel_rfl)) ?_
  intro W base args ds gs before hval0 hW hcnd _
  have hval : ∀ (j : Nat) t v, Trym.f4.params[j]? = some t → args[j]? = some v → Value.okWide Trym.prog W .any base t v := hval0
  have hW' := hW
  obtain ⟨p, q, hA0, hV, rfl, hfz, hnd⟩ := hW
  have hA : DataW.TrodAll enc Trym.prog W 0 (fun _ => true) true Trym.f4.params.toList args.toList ds p := hA0
  rw [Trym.params4] at hA hval
  obtain ⟨v0, vs0, d0, ds0, p0, q0, hargs, rfl, rfl, h0, r0⟩ := trodAll_cons hA
  obtain ⟨v1, vs1, d1, ds1, p1, q1, rfl, rfl, rfl, h1, r1⟩ := trodAll_cons r0
  obtain ⟨v2, vs2, d2, ds2, p2, q2, rfl, rfl, rfl, h2, r2⟩ := trodAll_cons r1
  obtain ⟨v3, vs3, d3, ds3, p3, q3, rfl, rfl, rfl, h3, r3⟩ := trodAll_cons r2
  obtain ⟨v4, vs4, d4, ds4, p4, q4, rfl, rfl, rfl, h4, r4⟩ := trodAll_cons r3
  obtain ⟨v5, vs5, d5, ds5, p5, q5, rfl, rfl, rfl, h5, r5⟩ := trodAll_cons r4
  obtain ⟨v6, vs6, d6, ds6, p6, q6, rfl, rfl, rfl, h6, r6⟩ := trodAll_cons r5
  obtain ⟨v7, vs7, d7, ds7, p7, q7, rfl, rfl, rfl, h7, r7⟩ := trodAll_cons r6
  obtain ⟨v8, vs8, d8, ds8, p8, q8, rfl, rfl, rfl, h8, r8⟩ := trodAll_cons r7
  obtain ⟨v9, vs9, d9, ds9, p9, q9, rfl, rfl, rfl, h9, r9⟩ := trodAll_cons r8
  obtain ⟨rfl, rfl, rfl⟩ := trodAll_nil r9
  obtain rfl : args = #[v0, v1, v2, v3, v4, v5, v6, v7, v8, v9] := by cases args; simp_all
  obtain ⟨rfl, rfl⟩ := trodVars_none hV
  obtain ⟨a0, rfl, rfl, rfl, w0⟩ := open_string Trym.underlying9 (hval 0 9 v0 rfl rfl) h0
  obtain ⟨a1, rfl, rfl, rfl⟩ := open_bool Trym.underlying4 (hval 1 4 v1 rfl rfl) h1
  obtain ⟨a2, rfl, rfl, rfl, w2⟩ := open_int Trym.underlying22 (hval 2 22 v2 rfl rfl) h2
  obtain ⟨a3, rfl, rfl, rfl⟩ := open_bool Trym.underlying4 (hval 3 4 v3 rfl rfl) h3
  obtain ⟨a4, rfl, rfl, rfl, w4⟩ := open_string Trym.underlying9 (hval 4 9 v4 rfl rfl) h4
  obtain ⟨a5, rfl, rfl, rfl, w5⟩ := open_string Trym.underlying9 (hval 5 9 v5 rfl rfl) h5
  obtain ⟨a6, rfl, rfl, rfl, w6⟩ := open_string Trym.underlying9 (hval 6 9 v6 rfl rfl) h6
  obtain ⟨c0, c1, c2, c3, y0, y1, y2, y3, m, rfl, rfl, rfl, hy0, hy1, hy2, hy3⟩ := open_agg4 Trym.underlying26 (by kernel_rfl) cells26 (hval 7 26 v7 rfl rfl) h7
  obtain ⟨k0, e0, rfl⟩ := DataW.trod_bool Trym.underlying4 hy0
  obtain ⟨k1, e1, rfl, wk1⟩ := DataW.trod_string Trym.underlying9 hy1
  obtain ⟨k2, e2, rfl⟩ := DataW.trod_bool Trym.underlying4 hy2
  obtain ⟨k3, e3, rfl, wk3⟩ := DataW.trod_int Trym.underlying22 hy3
  simp only [List.cons.injEq, and_true] at e0 e1 e2 e3
  subst e0 e1 e2 e3
  obtain ⟨a8, rfl, rfl, rfl, w8⟩ := open_int Trym.underlying22 (hval 8 22 v8 rfl rfl) h8
  obtain ⟨a9, rfl, rfl, rfl, w9⟩ := open_int Trym.underlying22 (hval 9 22 v9 rfl rfl) h9
  clear hA0 hval0
  simp only [List.append_nil] at hW'
  have structReads : ∀ (W' : World) (sp : Nat → Bool), DataW.Trod enc Trym.prog W' 0 sp true 26 (.agg #[.bool k0, .string k1, .bool k2, .int .u64 k3]) (.agg [.lit (.bool k0), .lit (.string k1.data.toList), .lit (.bool k2), .lit (.int .u64 k3)]) [] := fun W' sp =>
    shut_agg4 (y0 := (.lit (.bool k0), [])) (y1 := (.lit (.string k1.data.toList), [])) (y2 := (.lit (.bool k2), [])) (y3 := (.lit (.int .u64 k3), [])) Trym.underlying26 (by kernel_rfl) cells26
      ⟨1, by simp [DataW.trod, Trym.underlying4]⟩ ⟨1, by simp [DataW.trod, Trym.underlying9, wk1]⟩ ⟨1, by simp [DataW.trod, Trym.underlying4]⟩ ⟨1, by simp [DataW.trod, Trym.underlying22, wk3]⟩
  refine (law_any a0 a1 a2 a3 a4 a5 a6 k0 k1 k2 k3 a8 a9 w0 w4 w5 w6 wk1 W).mono fun e W' ⟨he, hg⟩ => ?_
  subst he
  exact ⟨_, rfl, post_of_same (pa := []) (pv := []) hW' (fun _ _ _ => (trodAll_cons_mk (shut_bool Trym.underlying4 _) trodAll_mk0)) (fun sp _ => (trodAll_cons_mk (shut_string Trym.underlying9 w0) (trodAll_cons_mk (shut_bool Trym.underlying4 _) (trodAll_cons_mk (shut_int Trym.underlying22 w2) (trodAll_cons_mk (shut_bool Trym.underlying4 _) (trodAll_cons_mk (shut_string Trym.underlying9 w4) (trodAll_cons_mk (shut_string Trym.underlying9 w5) (trodAll_cons_mk (shut_string Trym.underlying9 w6) (trodAll_cons_mk (structReads _ sp) (trodAll_cons_mk (shut_int Trym.underlying22 w8) (trodAll_cons_mk (shut_int Trym.underlying22 w9) trodAll_mk0))))))))))) (fun _ _ => rfl) rfl
    (hg.frame _) hg.2.1 (ok_one (by kernel_rfl) rfl (okWide_bool_mk Trym.underlying4 _))⟩

theorem over : Rows.fnWrittenThenMayRow.holds Trym.pinned (OpenSpec.ofChange Rows.fnWrittenThenMaySpec) :=
  OpenClaim.holds_of_wide 4 Trym.f4 rfl rfl rfl rfl rfl rfl rfl ⟨rfl, rfl, rfl, rfl, rfl⟩ rfl rfl rfl rfl rfl (by kernel_rfl) Trym.func4 (by kernel_rfl)
    (of_decide_eq_true (by kernel_rfl)) (by unfold Func.isWrapper; first | (rw [if_pos (by decide +kernel)]; kernel_rfl) | (rw [if_neg (by decide +kernel)]; exact ⟨rfl, rfl⟩))
    (fun os started H enc _ => lifted os started H enc)

/-- THE STATEMENT -/
theorem proved : Rows.FnWrittenThenMaySaid := over
#print axioms proved
end Go.Proofs.Qxb6604026aMods.fnWrittenThenMay
