/-
  THE LAW's WALK (function 6), out of its callees' contracts.
-/
import Derived.Test.Qxb6616923aModsComp
import Derived.RowKit3
namespace Go.Proofs.Qxb6616923aMods.Walks
open Go.RowKit
open Plain

theorem holds_c {p n : ByteArray} {c : Bool} (hc : Hid (cont p.data.toList n.data.toList = c)) (hp : p.size ≤ 4096) (b : Bool) (w : World) :
    Calls Trym.prog 12 #[.agg #[.string p, .bool b], .string n] w fun e w' => e = .returned (.bool c) ∧ w' = w.alloc (.cells #[.string p, .bool b] 27) := by
  have h := holds12 p b n w hp
  rw [hc.out] at h
  exact h

theorem contains_c {p n : ByteArray} {c : Bool} (hc : Hid (cont p.data.toList n.data.toList = c)) (hp : p.size ≤ 4096) (w : World) :
    Calls Trym.prog 8 #[.string p, .string n] w fun e w' => e = .returned (.bool c) ∧ w' = w := by
  have h := contains8 p n w hp
  rw [hc.out] at h
  exact h

theorem comp_c {p n : ByteArray} {c : Bool} (hc : Hid (comp p.data.toList n.data.toList = c)) (hp : p.size ≤ 4096) (hn : n.size ≤ 4096) (w : World) :
    Calls Trym.prog 10 #[.string p, .string n] w fun e w' => e = .returned (.bool c) ∧ ∃ q, w' = w.drewN q := by
  have h := comp10 p n w hp hn
  rw [hc.out] at h
  exact h

theorem zz13_small (s : ByteArray) (b : Bool) (n : ByteArray) (w : World) (hs : s.size ≤ 4096) (hn : n.size ≤ 4096) :
    Calls Trym.prog 13 #[.string s, .bool b, .string n] w fun e w' => e = .returned (.bool true) ∧ w' = w := by
  go_enter Trym.func13, Trym.ntmps13
  go_wp2
  go_ret
  exact ⟨rfl, rfl⟩

theorem grown_drewN {W w : World} (h : Grown W w) (q : Nat) : Grown W (w.drewN q) := h

/-- One of the two is longer than the law speaks of. -/
theorem early (p : ByteArray) (b : Bool) (n : ByteArray) (hp : p.size ≤ maxLen) (hn : n.size ≤ maxLen) (h : 4096 < p.size ∨ 4096 < n.size) (w : World) :
    Calls Trym.prog 6 #[.string p, .bool b, .string n] w fun e w' => e = .returned (.bool true) ∧ Grown w w' := by
  by_cases h1 : 4096 < p.size
  · go_enter Trym.func6, Trym.ntmps6
    go_wp2_with (go_at_call 13; refine (zz13_any _ _ _ _ hp hn).mono ?_; rintro e w' ⟨c, rfl, rfl⟩)
    all_goals
      go_ret
      exact ⟨rfl, Grown.refl _⟩
  · have h2 : 4096 < n.size := by omega
    go_enter Trym.func6, Trym.ntmps6
    go_wp2_with (go_at_call 13; refine (zz13_any _ _ _ _ hp hn).mono ?_; rintro e w' ⟨c, rfl, rfl⟩)
    all_goals
      go_ret
      exact ⟨rfl, Grown.refl _⟩

set_option maxHeartbeats 1000000 in
/-- The root is one slash. -/
theorem main_slash (p : ByteArray) (b : Bool) (n : ByteArray) (hp : p.size ≤ 4096) (hn : n.size ≤ 4096) (hs : (p.toList == [47]) = true) (w : World) :
    Calls Trym.prog 6 #[.string p, .bool b, .string n] w fun e w' => e = .returned (.bool true) ∧ Grown w w' := by
  have hc : Hid (cont p.data.toList n.data.toList = true) := cont_slash _ _ (by rw [← Lib.toList_data]; exact eq_of_beq hs)
  go_enter Trym.func6, Trym.ntmps6
  go_wp2_with (first
    | (go_at_call 13; refine (zz13_small _ _ _ _ hp hn).mono ?_; rintro e w' ⟨rfl, rfl⟩)
    | (go_at_call 12; refine (holds_c hc hp _ _).mono ?_; rintro e w' ⟨rfl, rfl⟩)
    | (go_at_call 8; refine (contains_c hc hp _).mono ?_; rintro e w' ⟨rfl, rfl⟩))
  go_ret
  exact ⟨rfl, by repeat (first | exact Grown.refl _ | apply Grown.drew | apply Grown.alloc | apply grown_drewN)⟩

set_option maxHeartbeats 1000000 in
/-- Any other root. -/
theorem main_other (p : ByteArray) (b : Bool) (n : ByteArray) (hp : p.size ≤ 4096) (hn : n.size ≤ 4096) (hs : (p.toList == [47]) = false) (w : World) :
    Calls Trym.prog 6 #[.string p, .bool b, .string n] w fun e w' => e = .returned (.bool true) ∧ Grown w w' := by
  obtain ⟨c, hc⟩ : ∃ c, Hid (cont p.data.toList n.data.toList = c) := ⟨_, rfl⟩
  have hd : Hid (comp p.data.toList n.data.toList = c) := by
    have e := cont_comp p.data.toList n.data.toList (by rw [← Lib.toList_data]; exact beq_eq_false_iff_ne.1 hs)
    exact e.symm.trans hc.out
  cases c
  all_goals
    go_enter Trym.func6, Trym.ntmps6
    go_wp2_with (first
      | (go_at_call 13; refine (zz13_small _ _ _ _ hp hn).mono ?_; rintro e w' ⟨rfl, rfl⟩)
      | (go_at_call 12; refine (holds_c hc hp _ _).mono ?_; rintro e w' ⟨rfl, rfl⟩)
      | (go_at_call 10; refine (comp_c hd hp hn _).mono ?_; rintro e w' ⟨rfl, q, rfl⟩)
      | (go_at_call 8; refine (contains_c hc hp _).mono ?_; rintro e w' ⟨rfl, rfl⟩))
    go_ret
    exact ⟨rfl, by repeat (first | exact Grown.refl _ | apply Grown.drew | apply Grown.alloc | apply grown_drewN)⟩

end Go.Proofs.Qxb6616923aMods.Walks
