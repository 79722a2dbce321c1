/-
  SEAT b6619305aM: THE PLAIN LAWS: no Go in sight. 'fill n b': the least multiple of b that is at least n.
-/
import Derived.RowKit
namespace Go.Proofs.Qxb6619305aMods.Plain

def fill (n b : Nat) : Nat := (n + b - 1) / b * b

theorem fill_eq (n b : Nat) : fill n b + (n + b - 1) % b = n + b - 1 := by
  have h := Nat.div_add_mod (n + b - 1) b
  unfold fill
  rw [Nat.mul_comm]
  exact h

theorem fill_ge (n b : Nat) (hb : 1 ≤ b) : n ≤ fill n b := by
  have h := fill_eq n b
  have h2 := Nat.mod_lt (n + b - 1) hb
  omega

theorem fill_lt (n b : Nat) (hb : 1 ≤ b) : fill n b < n + b := by
  have h := fill_eq n b
  omega

theorem fill_mod (n b : Nat) : fill n b % b = 0 := by
  unfold fill
  exact Nat.mul_mod_left _ _

theorem fill_zero (b : Nat) (hb : 1 ≤ b) : fill 0 b = 0 := by
  unfold fill
  rw [Nat.div_eq_of_lt (by omega)]
  simp

theorem fill_fill (n b : Nat) (hb : 1 ≤ b) : fill (fill n b) b = fill n b := by
  have h1 := fill_ge (fill n b) b hb
  have h2 := fill_lt (fill n b) b hb
  have h3 := fill_mod (fill n b) b
  have h4 := fill_mod n b
  -- two multiples of b, less than b apart
  obtain ⟨x, hx⟩ := Nat.dvd_of_mod_eq_zero h3
  obtain ⟨y, hy⟩ := Nat.dvd_of_mod_eq_zero h4
  rw [hx] at h1 h2 ⊢
  rw [hy] at h1 h2 ⊢
  have h5 : y ≤ x := Nat.le_of_mul_le_mul_left h1 hb
  have h6 : b * x < b * (y + 1) := by rw [Nat.mul_add, Nat.mul_one]; exact h2
  have h7 : x < y + 1 := Nat.lt_of_mul_lt_mul_left h6
  have : x = y := by omega
  rw [this]

/-- What 'fill' is to the walk, which reckons with Int. -/
theorem fill_int (n b : Nat) (hb : 1 ≤ b) : ((n : Int) + (b : Int) - 1) / (b : Int) * (b : Int) = (fill n b : Int) := by
  unfold fill
  have e : ((n : Int) + (b : Int) - 1) = ((n + b - 1 : Nat) : Int) := by omega
  rw [e]
  simp

/-- The first k values of f, taken round and round by n. -/
def cyc {α : Type} (f : Nat → α) (n k : Nat) : List α := (List.range k).map fun i => f (i % n)

theorem cyc_length {α : Type} (f : Nat → α) (n k : Nat) : (cyc f n k).length = k := by simp [cyc]

theorem cyc_get {α : Type} (f : Nat → α) (n k i : Nat) (h : i < k) : (cyc f n k)[i]? = some (f (i % n)) := by
  simp [cyc, h]

/-- Behind whole turns the next m (at most n) are the first m again. -/
theorem cyc_append {α : Type} (f : Nat → α) (n k m : Nat) (hk : k % n = 0) (hm : m ≤ n) : cyc f n k ++ (List.range m).map f = cyc f n (k + m) := by
  unfold cyc
  rw [List.range_add, List.map_append, List.map_map]
  congr 1
  apply List.map_congr_left
  intro i hi
  have hi' : i < m := List.mem_range.1 hi
  show f i = f ((k + i) % n)
  rw [Nat.add_mod, hk, Nat.zero_add, Nat.mod_mod, Nat.mod_eq_of_lt (by omega)]

end Go.Proofs.Qxb6619305aMods.Plain
