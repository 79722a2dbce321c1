/-
  SEAT b6619305aM: the other callees: fillBlocks of nothing, ZZfillBlocks (6), zzEqualBytes (7), zzIsPrefix (10), zzFullFill (9), zzBytes (5, 8).
-/
import Derived.Test.Qxb6619305aModsFill
import Derived.RegionTactic
import Derived.ChangeAlike
import Derived.Deep.QuietTactic
import Derived.BigQuiet
namespace Go.Proofs.Qxb6619305aMods.Walks
open Go.RowKit
open Plain

theorem fill_zero_int (b : Nat) (hb : 1 ≤ b) : ((b : Int) - 1) / (b : Int) * (b : Int) = 0 := by
  have h := fill_int 0 b hb
  rw [fill_zero b hb] at h
  simpa using h

set_option maxHeartbeats 1000000 in
/-- Nothing to fill with. -/
theorem fill11_none (ao : Option Addr) (c b : Nat) (w : World) (hb1 : 1 ≤ b) (hb2 : b ≤ 65536) :
    Calls Trym.prog 11 #[.slice ao 0 c, .int .i64 b] w fun e w' => e = .returned (.slice (some ⟨w.heap.size, 0, none⟩) 0 0) ∧ w.heap.size < w'.heap.size ∧ Below w.heap.size w w' := by
  obtain ⟨i0, hi, hz0, hz1, hz2⟩ := info_parts Trym.info5
  have hS := fill_zero_int b hb1
  go_enter Trym.func11, Trym.ntmps11
  go_wp2_with (at_make; refine wpList_make_own _ rfl _ _ 22 rfl w.heap.size 5 i0 (.int .u8 0) 1 Trym.underlying22 hi hz0 hz1 _ _ _ 0 rfl rfl (by omega) ?b2 ?b3 (Nat.le_refl _) ?_)
  case b2 => rw [hz2]; omega
  case b3 => unfold maxLen; omega
  intro w0 hown0 hgrow0
  go_wp2
  refine wp_loop_rounds 1 ?_
  rw [rounds_succ]
  go_wp2
  go_ret
  exact ⟨rfl, (hown0.lt w.heap.size rfl).2, (Below.refl _ _).grown hgrow0 (Nat.le_refl _) (fun k h => by cases h)⟩

theorem fill6 (g n c : Nat) (f : Nat → Int) (b : Nat) (w : World) (h1 : 1 ≤ n) (hn : n ≤ 1114112) (hnc : n ≤ c) (hb1 : 1 ≤ b) (hb2 : b ≤ 65536) (hg : g < w.heap.size) (hrow : Hid (Row w g n f)) :
    Calls Trym.prog 6 #[.slice (some ⟨g, 0, none⟩) n c, .int .i64 b] w fun e w' =>
      e = .returned (.slice (some ⟨w.heap.size, 0, none⟩) (fill n b) (fill n b)) ∧ Hid (Row w' w.heap.size (fill n b) (fun i => f (i % n))) ∧ w.heap.size < w'.heap.size ∧ Below w.heap.size w w' := by
  go_enter Trym.func6, Trym.ntmps6
  go_wp2_with (go_at_call 11; refine (fill11 g n c f b _ h1 hn hnc hb1 hb2 hg hrow).mono ?_; rintro e w' ⟨rfl, hr, hs, hb⟩)
  go_ret
  exact ⟨rfl, hr, hs, hb⟩

theorem fill6_none (ao : Option Addr) (c b : Nat) (w : World) (hb1 : 1 ≤ b) (hb2 : b ≤ 65536) :
    Calls Trym.prog 6 #[.slice ao 0 c, .int .i64 b] w fun e w' => e = .returned (.slice (some ⟨w.heap.size, 0, none⟩) 0 0) ∧ w.heap.size < w'.heap.size ∧ Below w.heap.size w w' := by
  go_enter Trym.func6, Trym.ntmps6
  go_wp2_with (go_at_call 11; refine (fill11_none ao c b _ hb1 hb2).mono ?_; rintro e w' ⟨rfl, hs, hb⟩)
  go_ret
  exact ⟨rfl, hs, hb⟩

set_option maxHeartbeats 1000000 in
/-- zzEqualBytes of two rows of one length that hold the same. -/
theorem equal7 (g1 g2 n c1 c2 : Nat) (f : Nat → Int) (w : World) (hn : n ≤ 1114112) (r1 : Hid (Row w g1 n f)) (r2 : Hid (Row w g2 n f)) :
    Calls Trym.prog 7 #[.slice (some ⟨g1, 0, none⟩) n c1, .slice (some ⟨g2, 0, none⟩) n c2] w fun e w' => e = .returned (.bool true) ∧ ∃ q, w' = w.drewN q := by
  go_enter Trym.func7, Trym.ntmps7
  go_wp2
  go_loopw [5] (fun i wr => ∃ k q : Nat, k ≤ n ∧ i = .int .i64 k ∧ wr = w.drewN q) (fun i _ => n - (intOf i).toNat)
  case atStart => exact ⟨0, 0, Nat.zero_le _, rfl, rfl⟩
  case round =>
    obtain ⟨k, q, hk, rfl, rfl⟩ := hrel
    by_cases hlt : k < n
    · have d1 := r1.out k hlt
      have d2 := r2.out k hlt
      go_wp2
      go_quiet (fail)
      go_wp2
      go_roundw
      case rel => exact ⟨k + 1, _, by omega, by go_num, rfl⟩
      case measure => simp [intOf]; omega
    · go_wp2
      go_ret
      exact ⟨rfl, _, rfl⟩

set_option maxHeartbeats 1000000 in
/-- zzIsPrefix of a row that holds the first bytes of the other. -/
theorem front10 (g1 g2 n m c1 c2 : Nat) (f1 f2 : Nat → Int) (w : World) (hnm : n ≤ m) (hm : m ≤ 1114112) (r1 : Hid (Row w g1 n f1)) (r2 : Hid (Row w g2 m f2)) (he : Hid (∀ i, i < n → f1 i = f2 i)) :
    Calls Trym.prog 10 #[.slice (some ⟨g1, 0, none⟩) n c1, .slice (some ⟨g2, 0, none⟩) m c2] w fun e w' => e = .returned (.bool true) ∧ ∃ q, w' = w.drewN q := by
  go_enter Trym.func10, Trym.ntmps10
  go_wp2
  go_loopw [5] (fun i wr => ∃ k q : Nat, k ≤ n ∧ i = .int .i64 k ∧ wr = w.drewN q) (fun i _ => n - (intOf i).toNat)
  case atStart => exact ⟨0, 0, Nat.zero_le _, rfl, rfl⟩
  case round =>
    obtain ⟨k, q, hk, rfl, rfl⟩ := hrel
    by_cases hlt : k < n
    · have d1 := r1.out k hlt
      have d2 := r2.out k (by omega)
      rw [← he.out k hlt] at d2
      have hltm : k < m := by omega
      go_wp2
      go_quiet (fail)
      go_wp2
      go_roundw
      case rel => exact ⟨k + 1, _, by omega, by go_num, rfl⟩
      case measure => simp [intOf]; omega
    · go_wp2
      go_ret
      exact ⟨rfl, _, rfl⟩

end Go.Proofs.Qxb6619305aMods.Walks
