/-
  THE WALKS: what (astNodeType).String, zzNodeName and ZZastNodeTypeString do at each of the twenty-three declared kinds, the table of offsets holding what the program lays in it. fmt is never come to at these.
-/
import Derived.Test.YouarwFmtRows
import Derived.Test.YouarwFmtNames
import Derived.WalkKit
import Derived.WalkSpells
import Derived.BigQuiet
import Derived.Deep.QuietTactic
namespace Go.Proofs.YouarwFmt
open Go.RowKit
open Plain (nm idx)

theorem upto22 {k : Nat} (hk : k ≤ 22) : k = 0 ∨ k = 1 ∨ k = 2 ∨ k = 3 ∨ k = 4 ∨ k = 5 ∨ k = 6 ∨ k = 7 ∨ k = 8 ∨ k = 9 ∨ k = 10 ∨ k = 11 ∨ k = 12 ∨ k = 13 ∨ k = 14 ∨ k = 15 ∨ k = 16 ∨ k = 17 ∨ k = 18 ∨ k = 19 ∨ k = 20 ∨ k = 21 ∨ k = 22 := by omega

set_option maxRecDepth 100000 in
set_option maxHeartbeats 4000000 in
theorem string_any (k : Nat) (hk : k ≤ 22) (w : World) (hT : ∀ i : Nat, i < 24 → w.cell? ⟨0, i, none⟩ = some (.int .u16 (idx.getD i 0))) :
    Calls Uarg.prog 7 #[.int .i64 k] w fun e w' => e = .returned (.string (nm k)) ∧ w'.Alike w := by
  have h1 := hT k (by omega)
  have h2 := hT (k + 1) (by omega)
  clear hT
  rcases upto22 hk with rfl | rfl | rfl | rfl | rfl | rfl | rfl | rfl | rfl | rfl | rfl | rfl | rfl | rfl | rfl | rfl | rfl | rfl | rfl | rfl | rfl | rfl | rfl
  all_goals
    simp only [idx, Nat.reduceAdd, List.getD_eq_getElem?_getD, List.getElem?_cons_zero, List.getElem?_cons_succ, Option.getD_some, Nat.reduceAdd] at h1 h2
    clear hk
    go_enter Uarg.func7, Uarg.ntmps7
    go_wp2
    go_quiet (fail)
    go_wp2
    go_ret
    exact ⟨rfl, rfl, rfl, rfl⟩

set_option maxRecDepth 100000 in
set_option maxHeartbeats 4000000 in
theorem node_any (k : Nat) (hk : k ≤ 22) (w : World) :
    Calls Uarg.prog 6 #[.int .i64 k] w fun e w' => e = .returned (.string (nm k)) ∧ w' = w := by
  rcases upto22 hk with rfl | rfl | rfl | rfl | rfl | rfl | rfl | rfl | rfl | rfl | rfl | rfl | rfl | rfl | rfl | rfl | rfl | rfl | rfl | rfl | rfl | rfl | rfl
  all_goals
    clear hk
    go_enter Uarg.func6, Uarg.ntmps6
    go_wp2
    go_ret
    exact ⟨rfl, rfl⟩

set_option maxHeartbeats 400000 in
theorem outer_any (k : Nat) (hk : k ≤ 22) (w : World) (hT : ∀ i : Nat, i < 24 → w.cell? ⟨0, i, none⟩ = some (.int .u16 (idx.getD i 0))) :
    Calls Uarg.prog 5 #[.int .i64 k] w fun e w' => e = .returned (.string (nm k)) ∧ w'.Alike w := by
  have H := string_any k hk w hT
  clear hT
  go_enter Uarg.func5, Uarg.ntmps5
  go_wp2_with fail
  refine H.mono ?_
  rintro e w' ⟨rfl, hw⟩
  go_wp2
  go_ret
  exact ⟨rfl, hw⟩

end Go.Proofs.YouarwFmt
