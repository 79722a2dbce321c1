/-
  SEAT b6619305aM: THE WALK OF FnFillBlocksTwoBlockSizesAgree (function 4).
-/
import Derived.Test.Qxb6619305aModsHead
namespace Go.Proofs.Qxb6619305aMods.Walks
open Go.RowKit
open Go.WideShapes (add_plain)
open Plain

/-- The input lies outside what the law speaks of. -/
theorem early4 (ao : Option Addr) (n c : Nat) (b b' : Int) (w : World) (hn : n ≤ maxLen) (h : 1048576 < n ∨ b < 1 ∨ 65536 < b ∨ b' < 1 ∨ 65536 < b') :
    Calls Trym.prog 4 #[.slice ao n c, .int .i64 b, .int .i64 b'] w fun e w' => e = .returned (.bool true) ∧ Below w.heap.size w w' := by
  by_cases h1 : 1048576 < n
  · go_enter Trym.func4, Trym.ntmps4
    go_wp2_with (go_at_call 8; refine (zz8_any _ _ _ _ _ _ hn).mono ?_; rintro e w' ⟨v, rfl, rfl⟩)
    all_goals
      go_ret
      exact ⟨rfl, Below.refl _ _⟩
  · by_cases h2 : b < 1
    · go_enter Trym.func4, Trym.ntmps4
      go_wp2_with (go_at_call 8; refine (zz8_any _ _ _ _ _ _ hn).mono ?_; rintro e w' ⟨v, rfl, rfl⟩)
      all_goals
        go_ret
        exact ⟨rfl, Below.refl _ _⟩
    · by_cases h3 : 65536 < b
      · go_enter Trym.func4, Trym.ntmps4
        go_wp2_with (go_at_call 8; refine (zz8_any _ _ _ _ _ _ hn).mono ?_; rintro e w' ⟨v, rfl, rfl⟩)
        all_goals
          go_ret
          exact ⟨rfl, Below.refl _ _⟩
      · by_cases h4 : b' < 1
        · go_enter Trym.func4, Trym.ntmps4
          go_wp2_with (go_at_call 8; refine (zz8_any _ _ _ _ _ _ hn).mono ?_; rintro e w' ⟨v, rfl, rfl⟩)
          all_goals
            go_ret
            exact ⟨rfl, Below.refl _ _⟩
        · have h5 : 65536 < b' := by omega
          go_enter Trym.func4, Trym.ntmps4
          go_wp2_with (go_at_call 8; refine (zz8_any _ _ _ _ _ _ hn).mono ?_; rintro e w' ⟨v, rfl, rfl⟩)
          all_goals
            go_ret
            exact ⟨rfl, Below.refl _ _⟩

set_option maxHeartbeats 1000000 in
/-- The nil slice. -/
theorem nil4 (b b' : Nat) (w : World) (hb1 : 1 ≤ b) (hb2 : b ≤ 65536) (hb3 : 1 ≤ b') (hb4 : b' ≤ 65536) :
    Calls Trym.prog 4 #[.slice none 0 0, .int .i64 b, .int .i64 b'] w fun e w' => e = .returned (.bool true) ∧ Below w.heap.size w w' := by
  have kn := neq_nil
  go_enter Trym.func4, Trym.ntmps4
  go_wp2_with fail
  refine (zz8_small _ _ _ _ _ _ (by omega)).mono ?_
  rintro e w' ⟨rfl, rfl⟩
  go_wp2_with fail
  refine (fill6_none _ _ b _ hb1 hb2).mono ?_
  rintro e w1 ⟨rfl, hs1, hbl1⟩
  go_wp2_with fail
  refine (fill6_none _ _ b' _ hb3 hb4).mono ?_
  rintro e w2 ⟨rfl, hs2, hbl2⟩
  go_wp2
  go_ret
  exact ⟨rfl, hbl1.trans (hbl2.mono (by omega))⟩

set_option maxHeartbeats 1000000 in
/-- A slice that is not nil, without an element. -/
theorem none4 (x : Addr) (c : Nat) (b b' : Nat) (w : World) (hb1 : 1 ≤ b) (hb2 : b ≤ 65536) (hb3 : 1 ≤ b') (hb4 : b' ≤ 65536) :
    Calls Trym.prog 4 #[.slice (some x) 0 c, .int .i64 b, .int .i64 b'] w fun e w' => e = .returned (.bool true) ∧ Below w.heap.size w w' := by
  obtain ⟨i0, hi, hz0, hz1, hz2⟩ := info_parts Trym.info5
  have kn := neq_nil
  go_enter Trym.func4, Trym.ntmps4
  go_wp2_with fail
  refine (zz8_small _ _ _ _ _ _ (by omega)).mono ?_
  rintro e w' ⟨rfl, rfl⟩
  go_wp2_with (at_make; refine wpList_make_full _ rfl _ _ 22 rfl w.heap.size 5 i0 (.int .u8 0) 1 Trym.underlying22 hi hz0 hz1 _ _ _ _ 0 rfl rfl (by omega) (by omega) ?b2 ?b3 (Nat.le_refl _) ?_)
  case b2 => rw [hz2]; omega
  case b3 => unfold maxLen; omega
  intro w0 hown0 hgrow0
  have hbl0 : Below w.heap.size w w0 := (Below.refl _ _).grown hgrow0 (Nat.le_refl _) (fun k h => by cases h)
  have hs0 := hbl0.size
  clear hown0 hgrow0
  have hcp := copy_run_none w0 (some ⟨w.heap.size, 0, none⟩) (some x) c
  go_wp2_with fail
  refine (fill6_none _ _ b _ hb1 hb2).mono ?_
  rintro e w1 ⟨rfl, hs1, hbl1⟩
  go_wp2_with fail
  refine (fill6_none _ _ b' _ hb3 hb4).mono ?_
  rintro e w2 ⟨rfl, hs2, hbl2⟩
  go_wp2
  go_ret
  exact ⟨rfl, (hbl0.trans (hbl1.mono hs0)).trans (hbl2.mono (by omega))⟩

theorem full9S (S : Nat) (g1 g2 n c1 c2 : Nat) (f1 f2 : Nat → Int) (b : Nat) (w : World) (hS : Hid (S = fill n b)) (hn : n ≤ 1048576) (hb1 : 1 ≤ b) (hb2 : b ≤ 65536) (r1 : Hid (Row w g1 n f1)) (r2 : Hid (Row w g2 S f2)) (he : Hid (∀ i, i < n → f1 i = f2 i)) :
    Calls Trym.prog 9 #[.slice (some ⟨g1, 0, none⟩) n c1, .slice (some ⟨g2, 0, none⟩) S c2, .int .i64 b] w fun e w' => e = .returned (.bool true) ∧ ∃ q, w' = w.drewN q := by
  have r2' := r2
  rw [hS.out] at r2' ⊢
  exact full9 g1 g2 n c1 c2 f1 f2 b w hn hb1 hb2 r1 r2' he

set_option maxHeartbeats 2000000 in
/-- A slice with elements. -/
theorem some4 (x : Addr) (n c : Nat) (zs : List Int) (b b' : Nat) (w : World) (h1 : 1 ≤ n) (hn : n ≤ 1048576) (hz : n ≤ zs.length) (hcell : Hid (∀ i, i < zs.length → w.cell? (x.add i) = some (.int .u8 (zs.getD i 0)))) (hb1 : 1 ≤ b) (hb2 : b ≤ 65536) (hb3 : 1 ≤ b') (hb4 : b' ≤ 65536) :
    Calls Trym.prog 4 #[.slice (some x) n c, .int .i64 b, .int .i64 b'] w fun e w' => e = .returned (.bool true) ∧ Below w.heap.size w w' := by
  obtain ⟨i0, hi, hz0, hz1, hz2⟩ := info_parts Trym.info5
  have kn := neq_nil
  obtain ⟨f, hf⟩ : ∃ f : Nat → Int, Hid (f = fun i => zs.getD i 0) := ⟨_, rfl⟩
  obtain ⟨S, hS⟩ : ∃ S, Hid (S = fill n b) := ⟨_, rfl⟩
  have hge : n ≤ S := by rw [hS.out]; exact fill_ge n b hb1
  have hlt : S < n + b := by rw [hS.out]; exact fill_lt n b hb1
  obtain ⟨T, hT⟩ : ∃ T, Hid (T = fill n b') := ⟨_, rfl⟩
  have hge' : n ≤ T := by rw [hT.out]; exact fill_ge n b' hb3
  have hlt' : T < n + b' := by rw [hT.out]; exact fill_lt n b' hb3
  have hn0 : ((n : Int) == 0) = false := by simp; omega
  have hcyc : Hid (∀ i, i < n → f i = f (i % n)) := fun i hi => by rw [Nat.mod_eq_of_lt hi]
  have hsrc : Hid (∀ j v, ((List.range n).map fun i => Value.int .u8 (f i))[j]? = some v → w.cell? (x.add j) = some v) := by
    rw [hf.out]; exact src_cells hz hcell.out
  go_enter Trym.func4, Trym.ntmps4
  go_wp2_with fail
  refine (zz8_small _ _ _ _ _ _ hn).mono ?_
  rintro e w' ⟨rfl, rfl⟩
  go_wp2_with (at_make; refine wpList_make_full _ rfl _ _ 22 rfl w.heap.size 5 i0 (.int .u8 0) 1 Trym.underlying22 hi hz0 hz1 _ _ _ _ n rfl rfl (by omega) (by omega) ?b2 ?b3 (Nat.le_refl _) ?_)
  case b2 => rw [hz2]; omega
  case b3 => unfold maxLen; omega
  intro w0 hown0 hgrow0
  have hbl0 : Below w.heap.size w w0 := (Below.refl _ _).grown hgrow0 (Nat.le_refl _) (fun k h => by cases h)
  obtain ⟨cur, hcur, hcl⟩ := made_block hown0
  have hsrc0 : Hid (∀ j v, ((List.range n).map fun i => Value.int .u8 (f i))[j]? = some v → w0.cell? (x.add j) = some v) := fun j v hv => hgrow0.cell (hsrc.out j v hv) (by simp)
  obtain ⟨wc, hcp, hrow, hltc, hbc⟩ := copy_run (c := c) hcur.out hcl.out hsrc0.out hbl0
  clear hown0 hgrow0 hsrc hcell hcur hcl hbl0 hsrc0
  go_wp2_with fail
  refine (fill6S S w.heap.size n n f b _ hS h1 (by omega) (Nat.le_refl _) hb1 hb2 hltc hrow).mono ?_
  rintro e w1 ⟨rfl, hr1, hs1, hbl1⟩
  have row1 : Hid (Row w1 w.heap.size n f) := hrow.out.below hbl1 hltc
  obtain ⟨gr, hgr⟩ : ∃ gr, Hid (gr = wc.heap.size) := ⟨_, rfl⟩
  have r1 : Hid (Row w1 gr S (fun i => f (i % n))) := by show Row _ _ _ _; rw [hgr.out]; exact hr1.out
  have hgl : gr < w1.heap.size := by rw [hgr.out]; exact hs1
  have B1 : Below w.heap.size w w1 := hbc.trans (hbl1.mono (by omega))
  rw [← hgr.out]
  have hw1 : w.heap.size < w1.heap.size := by omega
  clear hr1 hs1 hbl1 hrow hltc hbc hcp kn hgr
  go_wp2_with fail
  refine (fill6S T w.heap.size n n f b' _ hT h1 (by omega) (Nat.le_refl _) hb3 hb4 hw1 row1).mono ?_
  rintro e w2 ⟨rfl, hr2, hs2, hbl2⟩
  have row2 : Hid (Row w2 w.heap.size n f) := row1.out.below hbl2 hw1
  have s1 : Hid (Row w2 gr S (fun i => f (i % n))) := r1.out.below hbl2 hgl
  obtain ⟨gt, hgt⟩ : ∃ gt, Hid (gt = w1.heap.size) := ⟨_, rfl⟩
  have s2 : Hid (Row w2 gt T (fun i => f (i % n))) := by show Row _ _ _ _; rw [hgt.out]; exact hr2.out
  have B2 : Below w.heap.size w w2 := B1.trans (hbl2.mono (by omega))
  rw [← hgt.out]
  clear hr2 hs2 hbl2 row1 r1 hgl B1 hw1 hgt
  go_wp2_with fail
  refine (full9S S w.heap.size gr n n S f (fun i => f (i % n)) b _ hS hn hb1 hb2 row2 s1 hcyc).mono ?_
  rintro e w3 ⟨rfl, q3, rfl⟩
  go_wp2_with fail
  refine (full9S T w.heap.size gt n n T f (fun i => f (i % n)) b' (w2.drewN q3) hT hn hb3 hb4 (row2.out.draws _) (s2.out.draws _) hcyc).mono ?_
  rintro e w4 ⟨rfl, q4, rfl⟩
  by_cases hst : S ≤ T
  · go_wp2_with fail
    refine (front10 gr gt S T S T (fun i => f (i % n)) (fun i => f (i % n)) (w2.drewN (q3 + q4)) hst (by omega) (s1.out.draws _) (s2.out.draws _) (fun _ _ => rfl)).mono ?_
    rintro e w5 ⟨rfl, q5, rfl⟩
    go_wp2
    go_ret
    exact ⟨rfl, below_draws B2 _⟩
  · go_wp2_with fail
    refine (front10 gt gr T S T S (fun i => f (i % n)) (fun i => f (i % n)) (w2.drewN (q3 + q4)) (by omega) (by omega) (s2.out.draws _) (s1.out.draws _) (fun _ _ => rfl)).mono ?_
    rintro e w5 ⟨rfl, q5, rfl⟩
    go_wp2
    go_ret
    exact ⟨rfl, below_draws B2 _⟩

end Go.Proofs.Qxb6619305aMods.Walks
