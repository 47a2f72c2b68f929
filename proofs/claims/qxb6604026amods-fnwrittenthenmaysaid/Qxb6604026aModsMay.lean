/-
  The contracts of the seat's small functions: 'may' (9), 'ZZKeyMay' (6), the length bound (5).
-/
import Derived.Test.Qxb6604026aModsRows
import Derived.WalkKit
import Derived.WalkSpells
import Derived.WalkLawsBesides
import Derived.ProofKit
namespace Go.Proofs.Qxb6604026aMods
open Go.RowKit

theorem grown_trans {a b c : World} (h1 : Grown a b) (h2 : Grown b c) : Grown a c :=
  ⟨World.keptBut_trans h1.1 (World.keptBut_mono (fun _ f => f) h2.1), fun x => (h2.2.1 x).trans (h1.2.1 x), Nat.le_trans h1.2.2 h2.2.2⟩

/-- what 'may' answers -/
def mayB (found : Bool) (rev : Int) (exact : Bool) (qf : Bool) (q : Int) : Bool :=
  if qf != found then false else if !qf then true else if exact then q == rev else decide (rev < q)

set_option maxHeartbeats 400000 in
theorem may_any (v : ByteArray) (found : Bool) (rev : Int) (ex : Bool) (qf : Bool) (q : Int) (w : World) :
    Calls Trym.prog 9 #[.agg #[.string v, .bool found, .int .u64 rev, .bool ex], .bool qf, .int .u64 q] w fun e w' => e = .returned (.bool (mayB found rev ex qf q)) ∧ Grown w w' := by
  cases found <;> cases ex <;> cases qf
  all_goals
    go_enter Trym.func9, Trym.ntmps9
    go_wp2
    go_ret
    exact ⟨rfl, by repeat (first | exact Grown.refl _ | apply Grown.drew | apply Grown.alloc)⟩

set_option maxHeartbeats 400000 in
theorem keyMay_any (v : ByteArray) (found : Bool) (rev : Int) (ex : Bool) (qf : Bool) (q : Int) (b : Bool) (hb : mayB found rev ex qf q = b) (w : World) :
    Calls Trym.prog 6 #[.string v, .bool found, .int .u64 rev, .bool ex, .bool qf, .int .u64 q] w fun e w' => e = .returned (.bool b) ∧ Grown w w' := by
  subst hb
  go_enter Trym.func6, Trym.ntmps6
  go_wp2_with fail
  refine (may_any _ _ _ _ _ _ _).mono ?_
  rintro e w' ⟨rfl, hg⟩
  go_wp2
  go_ret
  exact ⟨rfl, hg⟩

set_option maxHeartbeats 400000 in
theorem bytesMay_yes (v : ByteArray) (found : Bool) (rev : Int) (ex : Bool) (a b : Int) (w : World) (h : v.size ≤ 1048576) :
    Calls Trym.prog 5 #[.string v, .bool found, .int .u64 rev, .bool ex, .int .u64 a, .int .u64 b] w fun e w' => e = .returned (.bool true) ∧ w' = w := by
  go_enter Trym.func5, Trym.ntmps5
  go_wp2
  go_ret
  exact ⟨rfl, rfl⟩

set_option maxHeartbeats 400000 in
theorem bytesMay_no (v : ByteArray) (found : Bool) (rev : Int) (ex : Bool) (a b : Int) (w : World) (h : ¬ v.size ≤ 1048576) :
    Calls Trym.prog 5 #[.string v, .bool found, .int .u64 rev, .bool ex, .int .u64 a, .int .u64 b] w fun e w' => e = .returned (.bool false) ∧ w' = w := by
  go_enter Trym.func5, Trym.ntmps5
  go_wp2
  go_ret
  exact ⟨rfl, rfl⟩

end Go.Proofs.Qxb6604026aMods
