/-
  SEAT b6618027aM: zzHas (function 6), Matches (function 7).
-/
import Derived.Test.Qxb6618027aModsTargets
import Derived.LoopTactic
import Derived.RegionTactic
import Derived.ChangeAlike
import Derived.Deep.QuietTactic
import Derived.BigQuiet
import Derived.Deep.Draws
namespace Go.Proofs.Qxb6618027aMods.Walks
open Go.RowKit

/-- The two targets are one. -/
def eqT (a b : ByteArray × ByteArray) : Bool := a.1.toList == b.1.toList && a.2.toList == b.2.toList

/-- The list holds the target. -/
def hasT (l : List (ByteArray × ByteArray)) (t : ByteArray × ByteArray) : Bool := l.any fun p => eqT p t

theorem has_hit {l : List (ByteArray × ByteArray)} {t p : ByteArray × ByteArray} {k : Nat} (hp : l[k]? = some p) (h1 : (p.1.toList == t.1.toList) = true) (h2 : (p.2.toList == t.2.toList) = true) : hasT l t = true := by
  rw [hasT, List.any_eq_true]
  exact ⟨p, List.mem_of_getElem? hp, by rw [eqT, h1, h2]; rfl⟩

theorem has_step {l : List (ByteArray × ByteArray)} {t p : ByteArray × ByteArray} {k : Nat} (hno : hasT (l.take k) t = false) (hp : l[k]? = some p) (h : eqT p t = false) : hasT (l.take (k + 1)) t = false := by
  unfold hasT at hno ⊢
  rw [List.take_add_one, hp, List.any_append, hno]
  simp [h]

theorem has_end {l : List (ByteArray × ByteArray)} {t : ByteArray × ByteArray} {k : Nat} (hno : hasT (l.take k) t = false) (h : ¬ k < l.length) : hasT l t = false := by
  rw [List.take_of_length_le (by omega)] at hno
  exact hno

theorem eqT_first {a b : ByteArray × ByteArray} (h : (a.1.toList == b.1.toList) = false) : eqT a b = false := by rw [eqT, h]; rfl
theorem eqT_second {a b : ByteArray × ByteArray} (h : (a.2.toList == b.2.toList) = false) : eqT a b = false := by rw [eqT, h, Bool.and_false]
theorem ret_bool {a b : Bool} (h : b = a) : Ending.returned (.bool a) = .returned (.bool b) := by rw [h]

theorem below_draws {B : Nat} {w w' : World} (h : Below B w w') (q : Nat) : Below B w (w'.drewN q) := ⟨h.os, h.tape, h.output, h.size, h.block⟩

set_option maxHeartbeats 1000000 in
theorem has6 (g c : Nat) (l : List (ByteArray × ByteArray)) (hl : l.length ≤ 4) (t : ByteArray × ByteArray) (w : World) (hg : g < w.heap.size) (ht : Tab w g l) :
    Calls Trym.prog 6 #[.slice (some ⟨g, 0, none⟩) l.length c, .agg #[.string t.1, .string t.2]] w fun e w' =>
      e = .returned (.bool (hasT l t)) ∧ Below w.heap.size w w' := by
  go_enter Trym.func6, Trym.ntmps6
  go_wp2
  go_loopw [5] (fun i wr => ∃ k q : Nat, k ≤ l.length ∧ i = .int .i64 k ∧ Hid (hasT (l.take k) t = false) ∧ wr = (w.alloc (.cells #[.string t.1, .string t.2] 29)).drewN q)
    (fun i _ => l.length - (intOf i).toNat)
  case atStart => exact ⟨0, 0, Nat.zero_le _, rfl, rfl, rfl⟩
  case round =>
    obtain ⟨k, q, hk, rfl, hno, rfl⟩ := hrel
    have hbel : ∀ q, Below w.heap.size w ((w.alloc (.cells #[.string t.1, .string t.2] 29)).drewN q) := fun q => below_draws ((Below.refl _ _).alloc (Nat.le_refl _) _) q
    by_cases hlt : k < l.length
    · obtain ⟨p, hp⟩ : ∃ p, Hid (l[k]? = some p) := ⟨l[k], List.getElem?_eq_getElem hlt⟩
      obtain ⟨c1, c2⟩ := ht k p hp
      have d1 : (w.alloc (.cells #[.string t.1, .string t.2] 29)).cell? ⟨g, k * 2, none⟩ = some (.string p.1) := (World.cell?_alloc_past _ _ _ hg).trans c1
      have d2 : (w.alloc (.cells #[.string t.1, .string t.2] 29)).cell? ⟨g, k * 2 + 1, none⟩ = some (.string p.2) := (World.cell?_alloc_past _ _ _ hg).trans c2
      by_cases h1 : (p.1.toList == t.1.toList) = true
      · by_cases h2 : (p.2.toList == t.2.toList) = true
        · go_wp2
          go_quiet (fail)
          go_wp2
          go_ret
          exact ⟨ret_bool (has_hit hp.out h1 h2), by first | exact hbel _ | exact below_draws (hbel _) _⟩
        · have h2' : (p.2.toList == t.2.toList) = false := by simpa using h2
          clear h2
          go_wp2
          go_quiet (fail)
          go_wp2
          go_roundw
          case rel => exact ⟨k + 1, _, by omega, by go_num, has_step hno.out hp.out (eqT_second h2'), rfl⟩
          case measure => simp [intOf]; omega
      · have h1' : (p.1.toList == t.1.toList) = false := by simpa using h1
        clear h1
        go_wp2
        go_quiet (fail)
        go_wp2
        go_roundw
        case rel => exact ⟨k + 1, _, by omega, by go_num, has_step hno.out hp.out (eqT_first h1'), rfl⟩
        case measure => simp [intOf]; omega
    · go_wp2
      go_ret
      exact ⟨ret_bool (has_end hno.out hlt), hbel _⟩

set_option maxHeartbeats 1000000 in
theorem matches7 (t : ByteArray × ByteArray) (bot jt bii : ByteArray) (gen : Int) (w : World) :
    Calls Trym.prog 7 #[.agg #[.string t.1, .string t.2], .agg #[.string bot, .string jt, .string bii, .int .i64 gen]] w fun e w' =>
      e = .returned (.bool (hasT (T3 jt bot bii) t)) ∧ Below w.heap.size w w' := by
  have hsame : Hid ((bot.toList == bot.toList) = true) := by show _ = _; simp
  go_enter Trym.func7, Trym.ntmps7
  go_wp2_with (go_at_call 5; refine (targets_same bot jt bii gen bot hsame.out _).mono ?_; rintro e w1 ⟨g, c, rfl, hg1, hg2, htab, hb⟩)
  have k1 : w1.cell? ⟨w.heap.size, 0, none⟩ = some (.string t.1) := (hb.cell (p := ⟨w.heap.size, 0, none⟩) (by simp; omega)).trans (by simp)
  have k2 : w1.cell? ⟨w.heap.size, 1, none⟩ = some (.string t.2) := (hb.cell (p := ⟨w.heap.size, 1, none⟩) (by simp; omega)).trans (by simp)
  have hsz : w.heap.size < w1.heap.size := by have := hb.size; simp at this; omega
  have B0 : Below w.heap.size w w1 := (((Below.refl _ _).alloc (Nat.le_refl _) _).alloc (by simp) _).trans (hb.mono (by simp; omega))
  clear hb hg1
  go_loopw [12] (fun i wr => ∃ k : Nat, k ≤ 3 ∧ i = .int .i64 k ∧ Hid (hasT ((T3 jt bot bii).take k) t = false) ∧ Below w1.heap.size w1 wr)
    (fun i _ => 3 - (intOf i).toNat)
  case atStart => exact ⟨0, Nat.zero_le _, rfl, rfl, Below.refl _ _⟩
  case round =>
    obtain ⟨k, hk, rfl, hno, hbr⟩ := hrel
    have j1 : wr.cell? ⟨w.heap.size, 0, none⟩ = some (.string t.1) := (hbr.cell (p := ⟨w.heap.size, 0, none⟩) hsz).trans k1
    have j2 : wr.cell? ⟨w.heap.size, 1, none⟩ = some (.string t.2) := (hbr.cell (p := ⟨w.heap.size, 1, none⟩) hsz).trans k2
    have hs2 := hbr.size
    have hs3 : w.heap.size < wr.heap.size := by omega
    have B1 : Below w.heap.size w wr := B0.trans (hbr.mono (by omega))
    by_cases hlt : k < 3
    · obtain ⟨p, hp⟩ : ∃ p, Hid ((T3 jt bot bii)[k]? = some p) := ⟨(T3 jt bot bii)[k]'hlt, List.getElem?_eq_getElem hlt⟩
      obtain ⟨c1, c2⟩ := htab.below hbr hg2 k p hp
      by_cases h1 : (p.1.toList == t.1.toList) = true
      · by_cases h2 : (p.2.toList == t.2.toList) = true
        · go_wp2
          go_ret
          exact ⟨ret_bool (has_hit hp.out h1 h2), B1.alloc (by omega) _⟩
        · have h2' : (p.2.toList == t.2.toList) = false := by simpa using h2
          clear h2
          go_wp2
          go_roundw
          case rel => exact ⟨k + 1, by omega, by go_num, has_step hno.out hp.out (eqT_second h2'), hbr.alloc (by omega) _⟩
          case measure => simp [intOf]; omega
      · have h1' : (p.1.toList == t.1.toList) = false := by simpa using h1
        clear h1
        go_wp2
        go_roundw
        case rel => exact ⟨k + 1, by omega, by go_num, has_step hno.out hp.out (eqT_first h1'), hbr.alloc (by omega) _⟩
        case measure => simp [intOf]; omega
    · go_wp2
      go_ret
      exact ⟨ret_bool (has_end hno.out hlt), B1⟩

end Go.Proofs.Qxb6618027aMods.Walks
