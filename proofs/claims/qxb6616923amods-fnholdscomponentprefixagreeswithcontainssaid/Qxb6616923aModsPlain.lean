/-
  THE PLAIN LAW OF SEAT b6616923aM: no Go in sight. 'comp r n': the list n is r, or begins with r and a slash.
-/
import Derived.Lib.Strings
namespace Go.Proofs.Qxb6616923aMods.Plain

/-- n is r, or n begins with r and the byte 47. -/
def comp (r n : List UInt8) : Bool := n == r || Lib.hasPrefix n (r ++ [47])

/-- What 'contains' answers. -/
def cont (r n : List UInt8) : Bool := n == r || (r == [47] || Lib.hasPrefix n (r ++ [47]))

theorem cont_slash (r n : List UInt8) (h : r = [47]) : cont r n = true := by
  subst h; simp [cont]

theorem cont_comp (r n : List UInt8) (h : r ≠ [47]) : cont r n = comp r n := by
  have e : (r == [47]) = false := beq_eq_false_iff_ne.2 h
  rw [cont, comp, e, Bool.false_or]

theorem comp_iff (r n : List UInt8) : comp r n = true ↔ n = r ∨ r ++ [47] <+: n := by
  simp [comp, Lib.hasPrefix, List.isPrefixOf_iff_prefix]

/-- Where the two agree up to i, it is the rests that decide. -/
theorem comp_drop (r n : List UInt8) (i : Nat) (h : r.take i = n.take i) : comp r n = comp (r.drop i) (n.drop i) := by
  rw [Bool.eq_iff_iff, comp_iff, comp_iff]
  have er : r = n.take i ++ r.drop i := by rw [← h]; simp
  have en : n = n.take i ++ n.drop i := by simp
  constructor
  · rintro (h1 | h1)
    · left; rw [h1]
    · right
      rw [er, List.append_assoc] at h1
      have h2 := h1
      rw [en, List.take_append_drop] at h2
      conv at h2 => rhs; rw [en]
      exact (List.prefix_append_right_inj _).1 h2
  · rintro (h1 | h1)
    · left; rw [er, ← h1]; simp
    · right
      rw [er, List.append_assoc]
      conv => rhs; rw [en]
      exact (List.prefix_append_right_inj _).2 h1

/-- The first parts, each without a slash and each followed by a slash or by the end, differ: no. -/
theorem comp_differ (r n a b : List UInt8) (ra rb : List UInt8) (hr : r = a ++ ra) (hn : n = b ++ rb) (ha : ∀ x ∈ a, x ≠ 47) (hb : ∀ x ∈ b, x ≠ 47) (ea : ra = [] ∨ ∃ t, ra = 47 :: t) (eb : rb = [] ∨ ∃ t, rb = 47 :: t) (hd : a ≠ b) : comp r n = false := by
  rw [Bool.eq_false_iff]
  intro h
  apply hd
  rw [comp_iff] at h
  -- both are 'up to the first slash'
  have up : ∀ (l q : List UInt8), (∀ x ∈ l, x ≠ 47) → (q = [] ∨ ∃ t, q = 47 :: t) → ∀ s, (l ++ q ++ 47 :: s).takeWhile (fun x => x != 47) = l := by
    intro l
    induction l with
    | nil => rintro q _ (rfl | ⟨t, rfl⟩) s <;> simp
    | cons x l ih =>
      intro q hl hq s
      have hx : x ≠ 47 := hl x (by simp)
      have := ih q (fun y hy => hl y (by simp [hy])) hq s
      simp only [List.cons_append, List.takeWhile_cons]
      simp only [bne_iff_ne, ne_eq, hx, not_false_eq_true, if_true]
      rw [this]
  rcases h with h | ⟨t, ht⟩
  · have e1 := up a ra ha ea []
    have e2 := up b rb hb eb []
    rw [← hr] at e1
    rw [← hn, h, e1] at e2
    exact e2
  · have e1 := up a ra ha ea (t ++ [47])
    have e2 := up b rb hb eb []
    rw [← hr] at e1
    rw [← hn, ← ht] at e2
    have e3 : r ++ [47] ++ t ++ 47 :: [] = r ++ 47 :: (t ++ [47]) := by simp
    rw [e3, e1] at e2
    exact e2

/-- r has come to its end with the part that both bear; n goes on with a slash or ends. -/
theorem comp_end (a rb : List UInt8) (eb : rb = [] ∨ ∃ t, rb = 47 :: t) : comp a (a ++ rb) = true := by
  rw [comp_iff]
  rcases eb with rfl | ⟨t, rfl⟩
  · left; simp
  · right; exact ⟨t, by simp⟩

/-- n has come to its end, r goes on. -/
theorem comp_short (b : List UInt8) (c : UInt8) (t : List UInt8) : comp (b ++ c :: t) b = false := by
  rw [Bool.eq_false_iff]
  intro h
  rw [comp_iff] at h
  rcases h with h | h
  · have := congrArg List.length h; simp at this
  · have := h.length_le; simp at this; omega

/-! ### What the two scans of a round leave -/
/-- No slash from a on, below b. -/
def NoSl (l : List UInt8) (a b : Nat) : Prop := ∀ t, a ≤ t → t < b → l[t]? ≠ some 47
/-- At m the list ends, or a slash stands. -/
def Stop (l : List UInt8) (m : Nat) : Prop := m = l.length ∨ l[m]? = some 47
/-- What both lists bear up to k is one. -/
def Same (r n : List UInt8) (k : Nat) : Prop := r.take k = n.take k
def seg (l : List UInt8) (a b : Nat) : List UInt8 := (l.drop a).take (b - a)

theorem nosl_start (l : List UInt8) (a : Nat) : NoSl l a a := fun t h1 h2 => by omega
theorem nosl_step {l : List UInt8} {a b : Nat} (h : NoSl l a b) (c : UInt8) (hc : l[b]? = some c) (hn : c ≠ 47) : NoSl l a (b + 1) := fun t h1 h2 => by
  by_cases e : t = b
  · subst e; rw [hc]; intro he; exact hn (Option.some.inj he)
  · exact h t h1 (by omega)

theorem seg_mem {l : List UInt8} {a b : Nat} (h : NoSl l a b) : ∀ x ∈ seg l a b, x ≠ 47 := by
  intro x hx
  obtain ⟨i, hi, e⟩ := List.mem_iff_getElem.1 hx
  simp only [seg, List.length_take, List.length_drop] at hi
  simp only [seg, List.getElem_take, List.getElem_drop] at e
  intro h47
  refine h (a + i) (by omega) (by omega) ?_
  rw [List.getElem?_eq_getElem (by omega), e, h47]

theorem drop_seg {l : List UInt8} {a b : Nat} (h : a ≤ b) : l.drop a = seg l a b ++ l.drop b := by
  unfold seg
  have e : l.drop b = (l.drop a).drop (b - a) := by rw [List.drop_drop]; congr 1; omega
  rw [e, List.take_append_drop]

theorem stop_drop {l : List UInt8} {m : Nat} (h : Stop l m) : l.drop m = [] ∨ ∃ t, l.drop m = 47 :: t := by
  rcases h with h | h
  · left; rw [h]; simp
  · right
    obtain ⟨hl, e⟩ := List.getElem?_eq_some_iff.1 h
    exact ⟨l.drop (m + 1), by rw [List.drop_eq_getElem_cons hl, e]⟩

theorem step_differ {r n : List UInt8} {k a b : Nat} (hs : Same r n k) (ha : k ≤ a) (hb : k ≤ b) (na : NoSl r k a) (nb : NoSl n k b) (sa : Stop r a) (sb : Stop n b) (hd : (seg r k a == seg n k b) = false) : comp r n = false := by
  rw [comp_drop r n k hs]
  exact comp_differ _ _ _ _ _ _ (drop_seg ha) (drop_seg hb) (seg_mem na) (seg_mem nb) (stop_drop sa) (stop_drop sb) (by simpa using hd)

theorem seg_len {l : List UInt8} {a b : Nat} (hb : b ≤ l.length) : (seg l a b).length = b - a := by
  simp [seg]; omega

theorem seg_eq_len {r n : List UInt8} {k a b : Nat} (ha : k ≤ a) (hb : k ≤ b) (la : a ≤ r.length) (lb : b ≤ n.length) (he : (seg r k a == seg n k b) = true) : a = b := by
  have h := congrArg List.length (eq_of_beq he)
  rw [seg_len la, seg_len lb] at h
  omega

theorem step_end {r n : List UInt8} {k a b : Nat} (hs : Same r n k) (ha : k ≤ a) (hb : k ≤ b) (sb : Stop n b) (he : (seg r k a == seg n k b) = true) (hl : a = r.length) : comp r n = true := by
  rw [comp_drop r n k hs, drop_seg ha, drop_seg hb, eq_of_beq he]
  have e : r.drop a = [] := by rw [hl]; simp
  rw [e, List.append_nil]
  exact comp_end _ _ (stop_drop sb)

theorem step_short {r n : List UInt8} {k a b : Nat} (hs : Same r n k) (ha : k ≤ a) (hb : k ≤ b) (he : (seg r k a == seg n k b) = true) (hl : a < r.length) (hn : b = n.length) : comp r n = false := by
  rw [comp_drop r n k hs, drop_seg ha, drop_seg hb, eq_of_beq he]
  have e : n.drop b = [] := by rw [hn]; simp
  rw [e, List.append_nil, List.drop_eq_getElem_cons hl]
  exact comp_short _ _ _

theorem same_start (r n : List UInt8) : Same r n 0 := by simp [Same]

theorem step_next {r n : List UInt8} {k a b : Nat} (hs : Same r n k) (ha : k ≤ a) (hb : k ≤ b) (sa : Stop r a) (sb : Stop n b) (he : (seg r k a == seg n k b) = true) (la : a < r.length) (lb : b < n.length) : Same r n (a + 1) := by
  have e := seg_eq_len ha hb (by omega) (by omega) he
  subst e
  have h1 : r[a]? = some 47 := sa.resolve_left (by omega)
  have h2 : n[a]? = some 47 := sb.resolve_left (by omega)
  have t : ∀ l : List UInt8, l.take a = l.take k ++ seg l k a := by
    intro l
    unfold seg
    conv => lhs; rw [show a = k + (a - k) from by omega, List.take_add]
  unfold Same at hs ⊢
  rw [List.take_add_one, List.take_add_one, h1, h2, t r, t n, hs, eq_of_beq he]

end Go.Proofs.Qxb6616923aMods.Plain
