/-
  SEAT b6618027aM: TargetsOf (function 5): the slice that it hands back lies in new memory and holds the three targets, or the four.
-/
import Derived.Test.Qxb6618027aModsRows
import Derived.WalkKit
import Derived.WalkSpells
import Derived.WalkLawsBesides
namespace Go.Proofs.Qxb6618027aMods.Walks
open Go.RowKit

def kJ : ByteArray := { data := #[106, 111, 105, 110, 95, 116, 111, 107, 101, 110] }
def kB : ByteArray := { data := #[98, 111, 116] }
def kI : ByteArray := { data := #[98, 111, 116, 95, 105, 110, 115, 116, 97, 110, 99, 101, 95, 105, 100] }

/-- From the head of block g on lie the targets l, two cells each. -/
def Tab (w : World) (g : Nat) (l : List (ByteArray × ByteArray)) : Prop :=
  ∀ i p, l[i]? = some p → w.cell? ⟨g, i * 2, none⟩ = some (.string p.1) ∧ w.cell? ⟨g, i * 2 + 1, none⟩ = some (.string p.2)

theorem Tab.below {w w' : World} {g B : Nat} {l : List (ByteArray × ByteArray)} (h : Tab w g l) (hb : Below B w w') (hg : g < B) : Tab w' g l := by
  intro i p hp
  obtain ⟨h1, h2⟩ := h i p hp
  exact ⟨(hb.cell (p := ⟨g, i * 2, none⟩) hg).trans h1, (hb.cell (p := ⟨g, i * 2 + 1, none⟩) hg).trans h2⟩

/-- The targets where the two names agree. -/
def T3 (jt tb bii : ByteArray) : List (ByteArray × ByteArray) := [(kJ, jt), (kB, tb), (kI, bii)]
/-- The targets where they differ. -/
def T4 (jt tb bii bot : ByteArray) : List (ByteArray × ByteArray) := [(kJ, jt), (kB, tb), (kI, bii), (kB, bot)]

set_option maxHeartbeats 1000000 in
theorem targets_same (bot jt bii : ByteArray) (gen : Int) (tb : ByteArray) (h : (bot.toList == tb.toList) = true) (w : World) :
    Calls Trym.prog 5 #[.agg #[.string bot, .string jt, .string bii, .int .i64 gen], .string tb] w fun e w' =>
      ∃ g c, e = .returned (.slice (some ⟨g, 0, none⟩) 3 c) ∧ w.heap.size ≤ g ∧ g < w'.heap.size ∧ Tab w' g (T3 jt tb bii) ∧ Below w.heap.size w w' := by
  go_enter Trym.func5, Trym.ntmps5
  go_wp2
  go_ret
  refine ⟨_, _, rfl, by omega, by simp, ?_, ((Below.refl _ _).alloc (Nat.le_refl _) _).alloc (by simp) _⟩
  intro i p hp
  match i, hp with
  | 0, hp => cases hp; constructor <;> simp [kJ]
  | 1, hp => cases hp; constructor <;> simp [kB]
  | 2, hp => cases hp; constructor <;> simp [kI]

theorem cell_front (w : World) (A C : Array Value) (t : TypeId) (B j : Nat) (v : Value) (hB : B = w.heap.size) (hj : A[j]? = some v) : ((w.alloc (.cells (A ++ C) t)).drew).cell? ⟨B, j, none⟩ = some v := by
  show (w.alloc (.cells (A ++ C) t)).cell? ⟨B, j, none⟩ = some v
  rw [World.cell?_alloc_at _ _ _ _ hB]
  obtain ⟨h, e⟩ := Array.getElem?_eq_some_iff.1 hj
  rw [Array.getElem?_append_left h, hj]

set_option maxHeartbeats 1000000 in
theorem targets_other (bot jt bii : ByteArray) (gen : Int) (tb : ByteArray) (h : (bot.toList == tb.toList) = false) (w : World) :
    Calls Trym.prog 5 #[.agg #[.string bot, .string jt, .string bii, .int .i64 gen], .string tb] w fun e w' =>
      ∃ g c, e = .returned (.slice (some ⟨g, 0, none⟩) 4 c) ∧ w.heap.size ≤ g ∧ g < w'.heap.size ∧ Tab w' g (T4 jt tb bii bot) ∧ Below w.heap.size w w' := by
  go_enter Trym.func5, Trym.ntmps5
  go_wp2
  go_ret
  refine ⟨_, _, rfl, by omega, by simp, ?_, (((((Below.refl _ _).alloc (Nat.le_refl _) _).alloc (by simp) _).alloc (by simp; omega) _).alloc (by simp; omega) _).drew⟩
  intro i p hp
  match i, hp with
  | 0, hp => cases hp; exact ⟨cell_front _ _ _ _ _ _ _ (by simp) rfl, cell_front _ _ _ _ _ _ _ (by simp) rfl⟩
  | 1, hp => cases hp; exact ⟨cell_front _ _ _ _ _ _ _ (by simp) rfl, cell_front _ _ _ _ _ _ _ (by simp) rfl⟩
  | 2, hp => cases hp; exact ⟨cell_front _ _ _ _ _ _ _ (by simp) rfl, cell_front _ _ _ _ _ _ _ (by simp) rfl⟩
  | 3, hp => cases hp; exact ⟨(by rw [← Array.append_assoc]; exact cell_front _ _ _ _ _ _ _ (by simp) rfl), (by rw [← Array.append_assoc]; exact cell_front _ _ _ _ _ _ _ (by simp) rfl)⟩

end Go.Proofs.Qxb6618027aMods.Walks
