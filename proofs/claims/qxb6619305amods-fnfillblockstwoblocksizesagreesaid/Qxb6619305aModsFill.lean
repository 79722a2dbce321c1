/-
  SEAT b6619305aM: fillBlocks (function 11), ZZfillBlocks (function 6).
-/
import Derived.Test.Qxb6619305aModsRows
import Derived.Test.Qxb6619305aModsPlain
import Derived.WalkKit
import Derived.WideShapes
import Derived.WalkSpells
import Derived.WalkLawsBesides
import Derived.LoopTactic
import Derived.Deep.Draws
namespace Go.Proofs.Qxb6619305aMods.Walks
open Go.RowKit
open Go.WideShapes (add_plain)
open Plain

theorem Trym.info5 : (Trym.prog.info? 5).map (fun i => (i.zero, i.size, i.bytes)) = some (some (.int .u8 0), 1, 1) := by kernel_rfl

/-- From the head of block g on lie the n bytes f. -/
def Row (w : World) (g n : Nat) (f : Nat → Int) : Prop := ∀ i, i < n → w.cell? ⟨g, i, none⟩ = some (.int .u8 (f i))

theorem Row.below {w w' : World} {g n B : Nat} {f : Nat → Int} (h : Row w g n f) (hb : Below B w w') (hg : g < B) : Row w' g n f :=
  fun i hi => (hb.cell (p := ⟨g, i, none⟩) hg).trans (h i hi)

/-- The length of a slice in a slot: for a loop's measure. -/
def lenOf : Value → Nat | .slice _ k _ => k | _ => 0

set_option maxHeartbeats 1000000 in
/-- Something to fill with. -/
theorem fill11 (g n c : Nat) (f : Nat → Int) (b : Nat) (w : World) (h1 : 1 ≤ n) (hn : n ≤ 1114112) (hnc : n ≤ c) (hb1 : 1 ≤ b) (hb2 : b ≤ 65536) (hg : g < w.heap.size) (hrow : Hid (Row w g n f)) :
    Calls Trym.prog 11 #[.slice (some ⟨g, 0, none⟩) n c, .int .i64 b] w fun e w' =>
      e = .returned (.slice (some ⟨w.heap.size, 0, none⟩) (fill n b) (fill n b)) ∧ Row w' w.heap.size (fill n b) (fun i => f (i % n)) ∧ w.heap.size < w'.heap.size ∧ Below w.heap.size w w' := by
  obtain ⟨i0, hi, hz0, hz1, hz2⟩ := info_parts Trym.info5
  have hS := fill_int n b hb1
  have hge := fill_ge n b hb1
  have hlt := fill_lt n b hb1
  obtain ⟨S, hSS⟩ : ∃ S, Hid (S = fill n b) := ⟨_, rfl⟩
  rw [← hSS.out] at hS hge hlt ⊢
  go_enter Trym.func11, Trym.ntmps11
  go_wp2_with (at_make; refine wpList_make_own _ rfl _ _ 22 rfl w.heap.size 5 i0 (.int .u8 0) 1 Trym.underlying22 hi hz0 hz1 _ _ _ S rfl rfl (by omega) ?b2 ?b3 (Nat.le_refl _) ?_)
  case b2 => rw [hz2]; omega
  case b3 => unfold maxLen; omega
  intro w0 hown0 hgrow0
  go_wp2
  go_loopw [6] (fun v wr => ∃ k : Nat, k ≤ S ∧ v = .slice (some ⟨w.heap.size, 0, none⟩) k S ∧ Hid (k < S → k % n = 0) ∧
      wr.ownsRow w.heap.size 5 1 (.slice (some ⟨w.heap.size, 0, none⟩) k S) k (cyc (fun i => Value.int .u8 (f i)) n k) ∧ Below w.heap.size w wr)
    (fun v _ => S - lenOf v)
  case atStart => exact ⟨0, Nat.zero_le _, rfl, fun _ => Nat.zero_mod _, hown0, (Below.refl _ _).grown hgrow0 (Nat.le_refl _) (fun k h => by cases h)⟩
  case round =>
    obtain ⟨k, hk, rfl, hmod, hown, hbel⟩ := hrel
    have hsrc : Hid (∀ m, m ≤ n → ∀ j u, ((List.range m).map fun i => Value.int .u8 (f i))[j]? = some u → wr.cell? ((⟨g, 0, none⟩ : Addr).add j) = some u) := by
      intro m hm j u hu
      have hj : j < m := by
        have := (List.getElem?_eq_some_iff.1 hu).1
        simpa using this
      have e : u = .int .u8 (f j) := by
        have := hu
        simp [hj] at this
        exact this.symm
      have e2 : (⟨g, 0, none⟩ : Addr).add j = ⟨g, j, none⟩ := by rw [add_plain, Nat.zero_add]
      rw [e, e2]
      exact (hrow.out.below hbel hg) j (by omega)
    have hone : Hid (∀ m, ∀ u ∈ (List.range m).map (fun i => Value.int .u8 (f i)), u.oneCell' = true) := by
      intro m u hu
      obtain ⟨i, _, rfl⟩ := List.mem_map.1 hu
      rfl
    have hsz := hbel.size
    by_cases hlk : k < S
    · by_cases hfull : n ≤ S - k
      · go_wp2_with (at_builtin; refine wpList_append_fits _ rfl (.tmp 22) (.tmp 31) 22 rfl w.heap.size 5 i0 1 Trym.underlying22 hi hz1 w.heap.size k S _ rfl hown ⟨g, 0, none⟩ n c ((List.range n).map fun i => Value.int .u8 (f i)) rfl (by simp) (hsrc.out n (Nat.le_refl _)) (hone.out n) (by omega) ?_; intro w1 hown1 hgrow1)
        rw [cyc_append _ _ _ _ (hmod.out hlk) (Nat.le_refl _)] at hown1
        go_roundw
        case rel => exact ⟨k + n, by omega, rfl, fun _ => by rw [Nat.add_mod_right]; exact hmod.out hlk, hown1, hbel.grown hgrow1 hsz (fun k hk => by cases hk; exact Nat.le_refl _)⟩
        case measure => simp [lenOf]; omega
      · have hif : (S : Int) - (k : Int) < (n : Int) := by omega
        go_wp2_with (at_builtin; refine wpList_append_fits _ rfl (.tmp 22) (.tmp 31) 22 rfl w.heap.size 5 i0 1 Trym.underlying22 hi hz1 w.heap.size k S _ rfl hown ⟨g, 0, none⟩ (S - k) c ((List.range (S - k)).map fun i => Value.int .u8 (f i)) rfl (by simp) (hsrc.out (S - k) (by omega)) (hone.out (S - k)) (by omega) ?_; intro w1 hown1 hgrow1)
        rw [cyc_append _ _ _ _ (hmod.out hlk) (by omega), show k + (S - k) = S from by omega] at hown1
        go_roundw
        case rel => exact ⟨S, Nat.le_refl _, rfl, fun h => absurd h (Nat.lt_irrefl _), hown1, hbel.grown hgrow1 hsz (fun k hk => by cases hk; exact Nat.le_refl _)⟩
        case measure => simp [lenOf]; omega
    · obtain rfl : k = S := by omega
      go_wp2
      go_ret
      refine ⟨rfl, ?_, ?_, hbel⟩
      · intro i hik
        rw [hown.cellAt i (by omega), cyc_get _ _ _ _ hik]
      · exact (hown.lt w.heap.size rfl).2

end Go.Proofs.Qxb6619305aMods.Walks
