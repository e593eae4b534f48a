/-
  THE WALKS OF THE TWO LAWS, every input: each returns true and leaves memory as it was.
-/
import Derived.Test.YouarwFmtWalks
namespace Go.Proofs.YouarwFmt
open Go.RowKit
open Plain (nm idx)

set_option maxHeartbeats 400000 in
theorem table_out (i : Int) (w : World) (h : i < 0 ∨ 22 < i) :
    Calls Uarg.prog 3 #[.int .i64 i] w fun e w' => e = .returned (.bool true) ∧ w'.Alike w := by
  by_cases h0 : i < 0
  · clear h
    go_enter Uarg.func3, Uarg.ntmps3
    go_wp2
    go_ret
    exact ⟨rfl, rfl, rfl, rfl⟩
  · have h22 : 22 < i := by omega
    clear h
    go_enter Uarg.func3, Uarg.ntmps3
    go_wp2
    go_ret
    exact ⟨rfl, rfl, rfl, rfl⟩

set_option maxHeartbeats 400000 in
theorem table_in (k : Nat) (hk : k ≤ 22) (w : World) (hT : ∀ i : Nat, i < 24 → w.cell? ⟨0, i, none⟩ = some (.int .u16 (idx.getD i 0))) :
    Calls Uarg.prog 3 #[.int .i64 k] w fun e w' => e = .returned (.bool true) ∧ w'.Alike w := by
  have H := outer_any k hk w hT
  clear hT
  have hk' : (k : Int) ≤ 22 := by omega
  go_enter Uarg.func3, Uarg.ntmps3
  go_wp2_with fail
  refine H.mono ?_
  rintro e w' ⟨rfl, hw⟩
  go_wp2_with fail
  refine (node_any k hk _).mono ?_
  rintro e w'' ⟨rfl, rfl⟩
  go_wp2
  go_ret
  exact ⟨rfl, hw⟩

/-- What the law asks of each name: longer than three bytes, and the first three. -/
theorem nm_head {k : Nat} (hk : k ≤ 22) : ∃ h : 3 < (nm k).size, ((nm k)[0]'(by omega)).toNat = 65 ∧ ((nm k)[1]'(by omega)).toNat = 83 ∧ ((nm k)[2]'(by omega)).toNat = 84 := by
  rcases upto22 hk with rfl | rfl | rfl | rfl | rfl | rfl | rfl | rfl | rfl | rfl | rfl | rfl | rfl | rfl | rfl | rfl | rfl | rfl | rfl | rfl | rfl | rfl | rfl
  all_goals exact ⟨by decide, by decide, by decide, by decide⟩

/-- Two names are one just where the numbers are. -/
theorem nm_eql {k l : Nat} (hk : k ≤ 22) (hl : l ≤ 22) : ((nm k).toList == (nm l).toList) = ((k : Int) == (l : Int)) := by
  rw [Bool.eq_iff_iff]
  simp only [beq_iff_eq, ByteArray.toList_eq]
  constructor
  · intro h
    rw [Plain.nm_inj hk hl (by cases hn : nm k; cases hm : nm l; rw [hn, hm] at h; simpa using h)]
  · intro h
    rw [show k = l from by omega]

set_option maxHeartbeats 1000000 in
theorem inj_of (k l : Int) (a b : ByteArray) (x : Bool) (hk0 : 0 ≤ k) (hk : k ≤ 22) (hl0 : 0 ≤ l) (hl : l ≤ 22) (hab : (a.toList == b.toList) = x) (hkl : (k == l) = x)
    (sa : 3 < a.size) (sb : 3 < b.size) (a0 : (a[0]'(by omega)).toNat = 65) (a1 : (a[1]'(by omega)).toNat = 83) (a2 : (a[2]'(by omega)).toNat = 84)
    (b0 : (b[0]'(by omega)).toNat = 65) (b1 : (b[1]'(by omega)).toNat = 83) (b2 : (b[2]'(by omega)).toNat = 84) (w : World)
    (H : Calls Uarg.prog 5 #[.int .i64 k] w fun e w' => e = .returned (.string a) ∧ w'.Alike w)
    (H2 : ∀ w' : World, w'.Alike w → Calls Uarg.prog 5 #[.int .i64 l] w' fun e w'' => e = .returned (.string b) ∧ w''.Alike w') :
    Calls Uarg.prog 4 #[.int .i64 k, .int .i64 l] w fun e w' => e = .returned (.bool true) ∧ w'.Alike w := by
  have za : 3 < (a.size : Int) := by omega
  have zb : 3 < (b.size : Int) := by omega
  go_enter Uarg.func4, Uarg.ntmps4
  go_wp2_with fail
  refine H.mono ?_
  rintro e w' ⟨rfl, hw⟩
  clear H
  go_wp2_with fail
  refine (H2 _ hw).mono ?_
  rintro e w'' ⟨rfl, hw2⟩
  clear H2
  go_wp2
  go_ret
  exact ⟨rfl, hw2.1.trans hw.1, hw2.2.1.trans hw.2.1, hw2.2.2.trans hw.2.2⟩

set_option maxHeartbeats 400000 in
theorem inj_out (i j : Int) (w : World) (h : i < 0 ∨ 22 < i ∨ j < 0 ∨ 22 < j) :
    Calls Uarg.prog 4 #[.int .i64 i, .int .i64 j] w fun e w' => e = .returned (.bool true) ∧ w'.Alike w := by
  by_cases h0 : i < 0
  · clear h
    go_enter Uarg.func4, Uarg.ntmps4
    go_wp2
    go_ret
    exact ⟨rfl, rfl, rfl, rfl⟩
  by_cases h1 : 22 < i
  · clear h
    go_enter Uarg.func4, Uarg.ntmps4
    go_wp2
    go_ret
    exact ⟨rfl, rfl, rfl, rfl⟩
  by_cases h2 : j < 0
  · clear h
    go_enter Uarg.func4, Uarg.ntmps4
    go_wp2
    go_ret
    exact ⟨rfl, rfl, rfl, rfl⟩
  have h3 : 22 < j := by omega
  clear h
  go_enter Uarg.func4, Uarg.ntmps4
  go_wp2
  go_ret
  exact ⟨rfl, rfl, rfl, rfl⟩

/-- THE WALK OF FnASTNodeTypeStringTable, every input. -/
theorem table_any (i : Int) (w : World) (hT : ∀ i : Nat, i < 24 → w.cell? ⟨0, i, none⟩ = some (.int .u16 (idx.getD i 0))) :
    Calls Uarg.prog 3 #[.int .i64 i] w fun e w' => e = .returned (.bool true) ∧ w'.Alike w := by
  by_cases h : i < 0 ∨ 22 < i
  · exact table_out i w h
  · obtain ⟨k, rfl⟩ : ∃ k : Nat, i = (k : Int) := ⟨i.toNat, by omega⟩
    exact table_in k (by omega) w hT

/-- THE WALK OF FnASTNodeTypeStringInjective, every input. -/
theorem inj_any (i j : Int) (w : World) (hT : ∀ i : Nat, i < 24 → w.cell? ⟨0, i, none⟩ = some (.int .u16 (idx.getD i 0))) :
    Calls Uarg.prog 4 #[.int .i64 i, .int .i64 j] w fun e w' => e = .returned (.bool true) ∧ w'.Alike w := by
  by_cases h : i < 0 ∨ 22 < i ∨ j < 0 ∨ 22 < j
  · exact inj_out i j w h
  · obtain ⟨k, rfl⟩ : ∃ k : Nat, i = (k : Int) := ⟨i.toNat, by omega⟩
    obtain ⟨l, rfl⟩ : ∃ l : Nat, j = (l : Int) := ⟨j.toNat, by omega⟩
    have hk : k ≤ 22 := by omega
    have hl : l ≤ 22 := by omega
    obtain ⟨sa, a0, a1, a2⟩ := nm_head hk
    obtain ⟨sb, b0, b1, b2⟩ := nm_head hl
    exact inj_of k l (nm k) (nm l) ((k : Int) == (l : Int)) (by omega) (by omega) (by omega) (by omega) (nm_eql hk hl) rfl sa sb a0 a1 a2 b0 b1 b2 w (outer_any k hk w hT)
      (fun w' hw => outer_any l hl w' (fun i hi => by rw [← hT i hi]; simp only [World.cell?, hw.1]))

end Go.Proofs.YouarwFmt
