/-
  SEAT b6619305aM: THE WALK OF FnFillBlocksCyclicLeastFill (function 3).
-/
import Derived.Test.Qxb6619305aModsHead
namespace Go.Proofs.Qxb6619305aMods.Walks
open Go.RowKit
open Go.WideShapes (add_plain)
open Plain

/-- The input lies outside what the law speaks of. -/
theorem early3 (ao : Option Addr) (n c : Nat) (b : Int) (w : World) (hn : n ≤ maxLen) (h : 1048576 < n ∨ b < 1 ∨ 65536 < b) :
    Calls Trym.prog 3 #[.slice ao n c, .int .i64 b] w fun e w' => e = .returned (.bool true) ∧ Below w.heap.size w w' := by
  by_cases h1 : 1048576 < n
  · go_enter Trym.func3, Trym.ntmps3
    go_wp2_with (go_at_call 5; refine (zz5_any _ _ _ _ _ hn).mono ?_; rintro e w' ⟨v, rfl, rfl⟩)
    all_goals
      go_ret
      exact ⟨rfl, Below.refl _ _⟩
  · by_cases h2 : b < 1
    · go_enter Trym.func3, Trym.ntmps3
      go_wp2_with (go_at_call 5; refine (zz5_any _ _ _ _ _ hn).mono ?_; rintro e w' ⟨v, rfl, rfl⟩)
      all_goals
        go_ret
        exact ⟨rfl, Below.refl _ _⟩
    · have h3 : 65536 < b := by omega
      go_enter Trym.func3, Trym.ntmps3
      go_wp2_with (go_at_call 5; refine (zz5_any _ _ _ _ _ hn).mono ?_; rintro e w' ⟨v, rfl, rfl⟩)
      all_goals
        go_ret
        exact ⟨rfl, Below.refl _ _⟩

set_option maxHeartbeats 1000000 in
/-- The nil slice. -/
theorem nil3 (b : Nat) (w : World) (hb1 : 1 ≤ b) (hb2 : b ≤ 65536) :
    Calls Trym.prog 3 #[.slice none 0 0, .int .i64 b] w fun e w' => e = .returned (.bool true) ∧ Below w.heap.size w w' := by
  have kn := neq_nil
  go_enter Trym.func3, Trym.ntmps3
  go_wp2_with fail
  refine (zz5_small _ _ _ _ _ (by omega)).mono ?_
  rintro e w' ⟨rfl, rfl⟩
  go_wp2_with fail
  refine (fill6_none _ _ b _ hb1 hb2).mono ?_
  rintro e w1 ⟨rfl, hs1, hbl1⟩
  go_wp2_with fail
  refine (fill6_none _ _ b _ hb1 hb2).mono ?_
  rintro e w2 ⟨rfl, hs2, hbl2⟩
  go_wp2
  go_ret
  exact ⟨rfl, hbl1.trans (hbl2.mono (by omega))⟩

set_option maxHeartbeats 1000000 in
/-- A slice that is not nil, without an element. -/
theorem none3 (x : Addr) (c : Nat) (b : Nat) (w : World) (hb1 : 1 ≤ b) (hb2 : b ≤ 65536) :
    Calls Trym.prog 3 #[.slice (some x) 0 c, .int .i64 b] w fun e w' => e = .returned (.bool true) ∧ Below w.heap.size w w' := by
  obtain ⟨i0, hi, hz0, hz1, hz2⟩ := info_parts Trym.info5
  have kn := neq_nil
  go_enter Trym.func3, Trym.ntmps3
  go_wp2_with fail
  refine (zz5_small _ _ _ _ _ (by omega)).mono ?_
  rintro e w' ⟨rfl, rfl⟩
  go_wp2_with (at_make; refine wpList_make_full _ rfl _ _ 22 rfl w.heap.size 5 i0 (.int .u8 0) 1 Trym.underlying22 hi hz0 hz1 _ _ _ _ 0 rfl rfl (by omega) (by omega) ?b2 ?b3 (Nat.le_refl _) ?_)
  case b2 => rw [hz2]; omega
  case b3 => unfold maxLen; omega
  intro w0 hown0 hgrow0
  have hbl0 : Below w.heap.size w w0 := (Below.refl _ _).grown hgrow0 (Nat.le_refl _) (fun k h => by cases h)
  have hs0 := hbl0.size
  clear hown0 hgrow0
  have hcp := copy_run_none w0 (some ⟨w.heap.size, 0, none⟩) (some x) c
  go_wp2_with fail
  refine (fill6_none _ _ b _ hb1 hb2).mono ?_
  rintro e w1 ⟨rfl, hs1, hbl1⟩
  go_wp2_with fail
  refine (fill6_none _ _ b _ hb1 hb2).mono ?_
  rintro e w2 ⟨rfl, hs2, hbl2⟩
  go_wp2
  go_ret
  exact ⟨rfl, (hbl0.trans (hbl1.mono hs0)).trans (hbl2.mono (by omega))⟩

set_option maxHeartbeats 2000000 in
/-- A slice with elements. -/
theorem some3 (x : Addr) (n c : Nat) (zs : List Int) (b : Nat) (w : World) (h1 : 1 ≤ n) (hn : n ≤ 1048576) (hz : n ≤ zs.length) (hcell : Hid (∀ i, i < zs.length → w.cell? (x.add i) = some (.int .u8 (zs.getD i 0)))) (hb1 : 1 ≤ b) (hb2 : b ≤ 65536) :
    Calls Trym.prog 3 #[.slice (some x) n c, .int .i64 b] w fun e w' => e = .returned (.bool true) ∧ Below w.heap.size w w' := by
  obtain ⟨i0, hi, hz0, hz1, hz2⟩ := info_parts Trym.info5
  have kn := neq_nil
  obtain ⟨f, hf⟩ : ∃ f : Nat → Int, Hid (f = fun i => zs.getD i 0) := ⟨_, rfl⟩
  obtain ⟨S, hS⟩ : ∃ S, Hid (S = fill n b) := ⟨_, rfl⟩
  have hge : n ≤ S := by rw [hS.out]; exact fill_ge n b hb1
  have hlt : S < n + b := by rw [hS.out]; exact fill_lt n b hb1
  have hm : (S : Int) % (b : Int) = 0 := mod_int S b (by rw [hS.out]; exact fill_mod n b)
  have hd1 : decide (S < n) = false := decide_eq_false (by omega)
  have hd2 : decide ((n : Int) ≤ (S : Int) - (b : Int)) = false := decide_eq_false (by omega)
  have hn0 : ((n : Int) == 0) = false := by simp; omega
  have hS2 : Hid (S = fill S b) := by show _ = _; rw [hS.out]; exact (fill_fill n b hb1).symm
  have hsrc : Hid (∀ j v, ((List.range n).map fun i => Value.int .u8 (f i))[j]? = some v → w.cell? (x.add j) = some v) := by
    rw [hf.out]; exact src_cells hz hcell.out
  go_enter Trym.func3, Trym.ntmps3
  go_wp2_with fail
  refine (zz5_small _ _ _ _ _ hn).mono ?_
  rintro e w' ⟨rfl, rfl⟩
  go_wp2_with (at_make; refine wpList_make_full _ rfl _ _ 22 rfl w.heap.size 5 i0 (.int .u8 0) 1 Trym.underlying22 hi hz0 hz1 _ _ _ _ n rfl rfl (by omega) (by omega) ?b2 ?b3 (Nat.le_refl _) ?_)
  case b2 => rw [hz2]; omega
  case b3 => unfold maxLen; omega
  intro w0 hown0 hgrow0
  have hbl0 : Below w.heap.size w w0 := (Below.refl _ _).grown hgrow0 (Nat.le_refl _) (fun k h => by cases h)
  obtain ⟨cur, hcur, hcl⟩ := made_block hown0
  have hsrc0 : Hid (∀ j v, ((List.range n).map fun i => Value.int .u8 (f i))[j]? = some v → w0.cell? (x.add j) = some v) := fun j v hv => hgrow0.cell (hsrc.out j v hv) (by simp)
  obtain ⟨wc, hcp, hrow, hltc, hbc⟩ := copy_run (c := c) hcur.out hcl.out hsrc0.out hbl0
  clear hown0 hgrow0 hsrc hcell hcur hcl hbl0 hsrc0
  go_wp2_with fail
  refine (fill6S S w.heap.size n n f b _ hS h1 (by omega) (Nat.le_refl _) hb1 hb2 hltc hrow).mono ?_
  rintro e w1 ⟨rfl, hr1, hs1, hbl1⟩
  have hs1' : Hid (Row w1 w.heap.size n f) := hrow.out.below hbl1 hltc
  obtain ⟨gr, hgr⟩ : ∃ gr, Hid (gr = wc.heap.size) := ⟨_, rfl⟩
  have hr1' : Hid (Row w1 gr S (fun i => f (i % n))) := by show Row _ _ _ _; rw [hgr.out]; exact hr1.out
  have hgl : gr < w1.heap.size := by rw [hgr.out]; exact hs1
  have B1 : Below w.heap.size w w1 := hbc.trans (hbl1.mono (by omega))
  rw [← hgr.out]
  have hw1 : w.heap.size < w1.heap.size := by omega
  clear hr1 hs1 hbl1 hrow hltc hbc hcp kn hgr
  go_wp2_with fail
  clear hm hd1 hd2
  go_loopw [8] (fun i wr => ∃ k q : Nat, k ≤ S ∧ i = .int .i64 k ∧ wr = w1.drewN q) (fun i _ => S - (intOf i).toNat)
  case atStart => exact ⟨0, 0, Nat.zero_le _, rfl, rfl⟩
  case round =>
    obtain ⟨k, q, hk, rfl, rfl⟩ := hrel
    by_cases hlk : k < S
    · have d1 := hr1'.out k hlk
      have hkn : k % n < n := Nat.mod_lt _ h1
      have d2 := hs1'.out (k % n) hkn
      have m1 : (0 : Int) ≤ (k : Int) % (n : Int) := by omega
      have m2 : (k : Int) % (n : Int) < (n : Int) := by omega
      go_wp2
      go_quiet (fail)
      go_wp2
      go_roundw
      case rel => exact ⟨k + 1, _, by omega, by go_num, rfl⟩
      case measure => simp [intOf]; omega
    · go_wp2_with fail
      refine (fill6S S gr S S (fun i => f (i % n)) b (w1.drewN q) hS2 (by omega) (by omega) (Nat.le_refl _) hb1 hb2 hgl (hr1'.out.draws q)).mono ?_
      rintro e w2 ⟨rfl, hr2, hs2, hbl2⟩
      have e2 : Hid (Row w2 w1.heap.size S (fun i => f (i % n))) := hr2.out.same fun i hi => by show f (i % S % n) = _; rw [Nat.mod_eq_of_lt hi]
      have e3 : Hid (Row w2 gr S (fun i => f (i % n))) := (hr1'.out.draws q).below hbl2 hgl
      go_wp2_with fail
      refine (equal7 _ gr S S S (fun i => f (i % n)) _ (by omega) e2 e3).mono ?_
      rintro e w3 ⟨rfl, q3, rfl⟩
      go_wp2
      go_ret
      exact ⟨rfl, below_draws ((below_draws B1 q).trans (hbl2.mono (by show w.heap.size ≤ w1.heap.size; omega))) _⟩

end Go.Proofs.Qxb6619305aMods.Walks
