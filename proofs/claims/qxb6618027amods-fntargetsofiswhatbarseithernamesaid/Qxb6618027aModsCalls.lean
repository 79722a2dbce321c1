/-
  SEAT b6618027aM: the callees' contracts as the law uses them: in whatever world that has grown out of W, with the answer named; and the plain law: which targets stand in which list.
-/
import Derived.Test.Qxb6618027aModsHas
namespace Go.Proofs.Qxb6618027aMods.Walks
open Go.RowKit

theorem has_in {W : World} {g n : Nat} {l : List (ByteArray × ByteArray)} (hn : Hid (l.length = n)) (hl : n ≤ 4) (hg : g < W.heap.size) (ht : Hid (Tab W g l)) (c : Nat) (a b : ByteArray) (v : Bool) (hv : Hid (hasT l (a, b) = v)) (w : World) (hb : Below W.heap.size W w) :
    Calls Trym.prog 6 #[.slice (some ⟨g, 0, none⟩) n c, .agg #[.string a, .string b]] w fun e w' => e = .returned (.bool v) ∧ Below W.heap.size W w' := by
  have hs := hb.size
  have hn' := hn.out
  subst hn'
  refine (has6 g c l hl (a, b) w (by omega) (ht.out.below hb hg)).mono ?_
  rintro e w' ⟨rfl, h⟩
  exact ⟨by rw [hv.out], hb.trans (h.mono hs)⟩

theorem matches_in {W : World} (a b bot jt bii : ByteArray) (gen : Int) (v : Bool) (hv : Hid (hasT (T3 jt bot bii) (a, b) = v)) (w : World) (hb : Below W.heap.size W w) :
    Calls Trym.prog 7 #[.agg #[.string a, .string b], .agg #[.string bot, .string jt, .string bii, .int .i64 gen]] w fun e w' => e = .returned (.bool v) ∧ Below W.heap.size W w' := by
  have hs := hb.size
  refine (matches7 (a, b) bot jt bii gen w).mono ?_
  rintro e w' ⟨rfl, h⟩
  exact ⟨by rw [hv.out], hb.trans (h.mono hs)⟩

/-- The targets that the law expects. -/
def TT (jt tb bii bot : ByteArray) : List (ByteArray × ByteArray) := if (bot.toList == tb.toList) = true then T3 jt tb bii else T4 jt tb bii bot

theorem eqT_refl (a : ByteArray × ByteArray) : eqT a a = true := by simp [eqT]
theorem kJB : (kJ.toList == kB.toList) = false := by decide +kernel
theorem kJI : (kJ.toList == kI.toList) = false := by decide +kernel
theorem kBI : (kB.toList == kI.toList) = false := by decide +kernel

/-- A target is listed exactly where it bars one of the two. -/
theorem has_TT (jt tb bii bot : ByteArray) (t : ByteArray × ByteArray) : hasT (TT jt tb bii bot) t = (hasT (T3 jt bot bii) t || hasT (T3 jt tb bii) t) := by
  unfold TT
  split
  · rename_i h
    have e : bot.toList = tb.toList := eq_of_beq h
    simp only [hasT, T3, List.any_cons, List.any_nil, eqT, e, Bool.or_self]
  · simp only [hasT, T3, T4, List.any_cons, List.any_nil, Bool.or_false]
    generalize eqT (kJ, jt) t = x1
    generalize eqT (kB, tb) t = x2
    generalize eqT (kI, bii) t = x3
    generalize eqT (kB, bot) t = x4
    cases x1 <;> cases x2 <;> cases x3 <;> cases x4 <;> rfl

theorem has_mem {l : List (ByteArray × ByteArray)} {t : ByteArray × ByteArray} (h : t ∈ l) : hasT l t = true := by
  rw [hasT, List.any_eq_true]; exact ⟨t, h, eqT_refl t⟩

theorem has_J (jt tb bii bot : ByteArray) : hasT (TT jt tb bii bot) (kJ, jt) = true := by rw [has_TT, has_mem (l := T3 jt tb bii) (by simp [T3]), Bool.or_true]
theorem has_B1 (jt tb bii bot : ByteArray) : hasT (TT jt tb bii bot) (kB, tb) = true := by rw [has_TT, has_mem (l := T3 jt tb bii) (by simp [T3]), Bool.or_true]
theorem has_B2 (jt tb bii bot : ByteArray) : hasT (TT jt tb bii bot) (kB, bot) = true := by rw [has_TT, has_mem (l := T3 jt bot bii) (by simp [T3]), Bool.true_or]
theorem has_I (jt tb bii bot : ByteArray) : hasT (TT jt tb bii bot) (kI, bii) = true := by rw [has_TT, has_mem (l := T3 jt tb bii) (by simp [T3]), Bool.or_true]

/-- No target is listed twice. -/
theorem apart_TT (jt tb bii bot : ByteArray) (i j : Nat) (p q : ByteArray × ByteArray) (hij : i < j) (hp : (TT jt tb bii bot)[i]? = some p) (hq : (TT jt tb bii bot)[j]? = some q) : eqT p q = false := by
  unfold TT at hp hq
  split at hp
  · rename_i h
    rw [if_pos h] at hq
    have hj : j < 3 := (List.getElem?_eq_some_iff.1 hq).1
    obtain ⟨rfl, rfl⟩ | ⟨rfl, rfl⟩ | ⟨rfl, rfl⟩ : (i = 0 ∧ j = 1) ∨ (i = 0 ∧ j = 2) ∨ (i = 1 ∧ j = 2) := by omega
    · cases hp; cases hq; exact eqT_first kJB
    · cases hp; cases hq; exact eqT_first kJI
    · cases hp; cases hq; exact eqT_first kBI
  · rename_i h
    rw [if_neg h] at hq
    have hj : j < 4 := (List.getElem?_eq_some_iff.1 hq).1
    obtain ⟨rfl, rfl⟩ | ⟨rfl, rfl⟩ | ⟨rfl, rfl⟩ | ⟨rfl, rfl⟩ | ⟨rfl, rfl⟩ | ⟨rfl, rfl⟩ : (i = 0 ∧ j = 1) ∨ (i = 0 ∧ j = 2) ∨ (i = 0 ∧ j = 3) ∨ (i = 1 ∧ j = 2) ∨ (i = 1 ∧ j = 3) ∨ (i = 2 ∧ j = 3) := by omega
    · cases hp; cases hq; exact eqT_first kJB
    · cases hp; cases hq; exact eqT_first kJI
    · cases hp; cases hq; exact eqT_first kJB
    · cases hp; cases hq; exact eqT_first kBI
    · cases hp; cases hq
      refine eqT_second ?_
      have h' : (bot.toList == tb.toList) = false := by simpa using h
      rw [BEq.comm]; exact h'
    · cases hp; cases hq
      refine eqT_first ?_
      rw [BEq.comm]; exact kBI

/-- Each listed target bars one of the two. -/
theorem bars_TT (jt tb bii bot : ByteArray) (i : Nat) (p : ByteArray × ByteArray) (hp : (TT jt tb bii bot)[i]? = some p) (h : hasT (T3 jt bot bii) p = false) : hasT (T3 jt tb bii) p = true := by
  have e := has_mem (List.mem_of_getElem? hp)
  rw [has_TT, h, Bool.false_or] at e
  exact e

theorem len_same (jt tb bii bot : ByteArray) (h : (bot.toList == tb.toList) = true) : (TT jt tb bii bot).length = 3 := by rw [TT, if_pos h]; rfl
theorem len_other (jt tb bii bot : ByteArray) (h : (bot.toList == tb.toList) = false) : (TT jt tb bii bot).length = 4 := by rw [TT, if_neg (by rw [h]; exact Bool.false_ne_true)]; rfl

/-- TargetsOf, in both cases. -/
theorem targets_in (bot jt bii : ByteArray) (gen : Int) (tb : ByteArray) (n : Nat) (hn : Hid ((TT jt tb bii bot).length = n)) (w : World) :
    Calls Trym.prog 5 #[.agg #[.string bot, .string jt, .string bii, .int .i64 gen], .string tb] w fun e w' =>
      ∃ g c, e = .returned (.slice (some ⟨g, 0, none⟩) n c) ∧ w.heap.size ≤ g ∧ g < w'.heap.size ∧ Hid (Tab w' g (TT jt tb bii bot)) ∧ Below w.heap.size w w' := by
  by_cases h : (bot.toList == tb.toList) = true
  · obtain rfl : 3 = n := (len_same jt tb bii bot h).symm.trans hn.out
    have e : TT jt tb bii bot = T3 jt tb bii := by rw [TT, if_pos h]
    rw [e]
    exact targets_same bot jt bii gen tb h w
  · have h' : (bot.toList == tb.toList) = false := by simpa using h
    obtain rfl : 4 = n := (len_other jt tb bii bot h').symm.trans hn.out
    have e : TT jt tb bii bot = T4 jt tb bii bot := by rw [TT, if_neg h]
    rw [e]
    exact targets_other bot jt bii gen tb h' w

end Go.Proofs.Qxb6618027aMods.Walks
