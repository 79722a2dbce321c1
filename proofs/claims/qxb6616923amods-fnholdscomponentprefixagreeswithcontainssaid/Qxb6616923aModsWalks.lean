/-
  THE WALKS OF SEAT b6616923aM's CALLEES: a contract a function.
-/
import Derived.Test.Qxb6616923aModsRows
import Derived.Test.Qxb6616923aModsPlain
import Derived.WalkKit
import Derived.WalkSpells
import Derived.WalkLawsBesides
import Derived.Outline
namespace Go.Proofs.Qxb6616923aMods.Walks
open Go.RowKit
open Plain

set_option maxHeartbeats 1000000 in
/-- internal/stringslite.HasPrefix -/
theorem hp16 (s p : ByteArray) (w : World) :
    Calls Trym.prog 16 #[.string s, .string p] w fun e w' => e = .returned (.bool (Lib.hasPrefix s.data.toList p.data.toList)) ∧ w' = w := by
  rw [← Lib.hasPrefix_of_take, ← Lib.size_eq, ← Lib.size_eq]
  go_enter Trym.func16, Trym.ntmps16
  go_wp2
  · rename_i h
    go_ret
    refine ⟨?_, rfl⟩
    show Ending.returned (Value.bool ((s.extract 0 p.size).toList == p.toList)) = _
    rw [Lib.extract_toList, Lib.toList_data]
    simp [h]
  · rename_i h
    go_ret
    refine ⟨?_, rfl⟩
    show Ending.returned (Value.bool false) = _
    simp [h]

set_option maxHeartbeats 1000000 in
/-- strings.HasPrefix -/
theorem hp15 (s p : ByteArray) (w : World) :
    Calls Trym.prog 15 #[.string s, .string p] w fun e w' => e = .returned (.bool (Lib.hasPrefix s.data.toList p.data.toList)) ∧ w' = w := by
  go_enter Trym.func15, Trym.ntmps15
  go_wp2_with (go_at_call 16; refine (hp16 _ _ _).mono ?_; rintro e w' ⟨rfl, rfl⟩)
  go_ret
  exact ⟨rfl, rfl⟩

theorem zz13_any (s : ByteArray) (b : Bool) (n : ByteArray) (w : World) (hs : s.size ≤ maxLen) (hn : n.size ≤ maxLen) :
    Calls Trym.prog 13 #[.string s, .bool b, .string n] w fun e w' => ∃ c, e = .returned (.bool c) ∧ w' = w := by
  unfold maxLen at hs hn
  go_enter Trym.func13, Trym.ntmps13
  go_wp2
  all_goals
    go_ret
    exact ⟨_, rfl, rfl⟩

theorem beq_data (a b : ByteArray) : (a.toList == b.toList) = (a.data.toList == b.data.toList) := by
  rw [Lib.toList_data, Lib.toList_data]

set_option maxHeartbeats 1000000 in
/-- contains -/
theorem contains14 (r n : ByteArray) (w : World) (hr : r.size ≤ 4096) :
    Calls Trym.prog 14 #[.string r, .string n] w fun e w' => e = .returned (.bool (cont r.data.toList n.data.toList)) ∧ w' = w := by
  by_cases h1 : (n.toList == r.toList) = true
  · have R : Hid (cont r.data.toList n.data.toList = true) := by
      show _ = _
      rw [cont, ← beq_data, h1]; rfl
    go_enter Trym.func14, Trym.ntmps14
    go_wp2
    go_ret
    rw [R.out]
    exact ⟨rfl, rfl⟩
  · have h1' : (n.toList == r.toList) = false := by simpa using h1
    clear h1
    by_cases h2 : (r.toList == [47]) = true
    · have R : Hid (cont r.data.toList n.data.toList = true) := by
        show _ = _
        rw [cont, ← beq_data, h1', ← Lib.toList_data r, h2]; rfl
      go_enter Trym.func14, Trym.ntmps14
      go_wp2
      go_ret
      rw [R.out]
      exact ⟨rfl, rfl⟩
    · have h2' : (r.toList == [47]) = false := by simpa using h2
      clear h2
      have R : Hid (cont r.data.toList n.data.toList = Lib.hasPrefix n.data.toList (r ++ { data := #[47] }).data.toList) := by
        show _ = _
        rw [cont, ← beq_data, h1', ← Lib.toList_data r, h2', Bool.false_or, Bool.false_or, Lib.toList_data]
        simp
      go_enter Trym.func14, Trym.ntmps14
      go_wp2_with (go_at_call 15; refine (hp15 _ _ _).mono ?_; rintro e w' ⟨rfl, rfl⟩)
      go_ret
      rw [R.out]
      exact ⟨rfl, rfl⟩

/-- ZZcontains -/
theorem contains8 (r n : ByteArray) (w : World) (hr : r.size ≤ 4096) :
    Calls Trym.prog 8 #[.string r, .string n] w fun e w' => e = .returned (.bool (cont r.data.toList n.data.toList)) ∧ w' = w := by
  go_enter Trym.func8, Trym.ntmps8
  go_wp2_with (go_at_call 14; refine (contains14 _ _ _ hr).mono ?_; rintro e w' ⟨rfl, rfl⟩)
  go_ret
  exact ⟨rfl, rfl⟩

/-- (Root).Holds -/
theorem holds12 (r : ByteArray) (b : Bool) (n : ByteArray) (w : World) (hr : r.size ≤ 4096) :
    Calls Trym.prog 12 #[.agg #[.string r, .bool b], .string n] w fun e w' => e = .returned (.bool (cont r.data.toList n.data.toList)) ∧ w' = w.alloc (.cells #[.string r, .bool b] 27) := by
  go_enter Trym.func12, Trym.ntmps12
  go_wp2_with (go_at_call 14; refine (contains14 _ _ _ hr).mono ?_; rintro e w' ⟨rfl, rfl⟩)
  go_ret
  exact ⟨rfl, rfl⟩

end Go.Proofs.Qxb6616923aMods.Walks
