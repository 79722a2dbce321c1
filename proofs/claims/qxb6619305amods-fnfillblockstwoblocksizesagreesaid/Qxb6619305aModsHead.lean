/-
  SEAT b6619305aM: what both laws share: the bound on the length (5, 8), 's != nil', the copy; zzFullFill (9).
-/
import Derived.Test.Qxb6619305aModsSmall
import Derived.Laws.CopyOwn
namespace Go.Proofs.Qxb6619305aMods.Walks
open Go.RowKit
open Go.WideShapes (add_plain)
open Plain

theorem zz5_any (ao : Option Addr) (n c : Nat) (b : Int) (w : World) (hn : n ≤ maxLen) :
    Calls Trym.prog 5 #[.slice ao n c, .int .i64 b] w fun e w' => ∃ v, e = .returned (.bool v) ∧ w = w' := by
  unfold maxLen at hn
  go_enter Trym.func5, Trym.ntmps5
  go_wp2
  all_goals
    go_ret
    exact ⟨_, rfl, rfl⟩

theorem zz5_small (ao : Option Addr) (n c : Nat) (b : Int) (w : World) (hn : n ≤ 1048576) :
    Calls Trym.prog 5 #[.slice ao n c, .int .i64 b] w fun e w' => e = .returned (.bool true) ∧ w = w' := by
  go_enter Trym.func5, Trym.ntmps5
  go_wp2
  go_ret
  exact ⟨rfl, rfl⟩

theorem zz8_any (ao : Option Addr) (n c : Nat) (b b' : Int) (w : World) (hn : n ≤ maxLen) :
    Calls Trym.prog 8 #[.slice ao n c, .int .i64 b, .int .i64 b'] w fun e w' => ∃ v, e = .returned (.bool v) ∧ w = w' := by
  unfold maxLen at hn
  go_enter Trym.func8, Trym.ntmps8
  go_wp2
  all_goals
    go_ret
    exact ⟨_, rfl, rfl⟩

theorem zz8_small (ao : Option Addr) (n c : Nat) (b b' : Int) (w : World) (hn : n ≤ 1048576) :
    Calls Trym.prog 8 #[.slice ao n c, .int .i64 b, .int .i64 b'] w fun e w' => e = .returned (.bool true) ∧ w = w' := by
  go_enter Trym.func8, Trym.ntmps8
  go_wp2
  go_ret
  exact ⟨rfl, rfl⟩

/-- 's != nil'. -/
theorem neq_nil (w : World) (a : Option Addr) (n c : Nat) : (binOp .neq 22 (.slice a n c) (.slice none 0 0)).run Trym.prog w = .ok (.bool (!a.isNone)) w :=
  run_neq_slice_nil_any w 22 5 a n c 0 0 Trym.underlying22

theorem size5 : (Trym.prog.info? 5).map (·.size) = some 1 := by kernel_rfl

/-- The block that 'make' laid, out of what it owns. -/
theorem made_block {w w0 : World} {n : Nat} {xs : List Value} (h : w0.ownsRow w.heap.size 5 1 (.slice (some ⟨w.heap.size, 0, none⟩) n n) n xs) : ∃ cur : List Value, Hid (w0.heap[w.heap.size]? = some (.cells cur.toArray 5 (0, 0))) ∧ Hid (cur.length = n) := by
  rcases h.2 with ⟨h', _⟩ | ⟨g', cap', cur, h', _, hg, _, _, hcs, _⟩
  · simp at h'
  · simp only [Value.slice.injEq, Option.some.injEq, Addr.mk.injEq, and_true, true_and] at h'
    obtain ⟨rfl, rfl⟩ := h'
    exact ⟨cur.toList, by show _ = _; simpa using hg, by show _ = _; simpa using hcs⟩

/-- The cells that are copied, at the address of the argument. -/
theorem src_cells {w : World} {x : Addr} {zs : List Int} {n : Nat} (hz : n ≤ zs.length) (hc : ∀ i, i < zs.length → w.cell? (x.add i) = some (.int .u8 (zs.getD i 0))) :
    ∀ j v, ((List.range n).map fun i => Value.int .u8 (zs.getD i 0))[j]? = some v → w.cell? (x.add j) = some v := by
  intro j v hv
  have hj : j < n := by
    have := (List.getElem?_eq_some_iff.1 hv).1
    simpa using this
  have e : v = .int .u8 (zs.getD j 0) := by
    rw [List.getElem?_map, List.getElem?_range hj] at hv
    exact (Option.some.inj hv).symm
  rw [e]
  exact hc j (by omega)

theorem bytes_one (n : Nat) (f : Nat → Int) : ∀ v ∈ (List.range n).map (fun i => Value.int .u8 (f i)), v.oneCell' = true := by
  intro u hu
  obtain ⟨i, _, rfl⟩ := List.mem_map.1 hu
  rfl

/-- 'copy(zzc, s)' with elements: behind it the new row holds what s holds. -/
theorem copy_run {w w0 : World} {x : Addr} {n c : Nat} {cur : List Value} {f : Nat → Int} (hcur : w0.heap[w.heap.size]? = some (.cells cur.toArray 5 (0, 0))) (hcl : cur.length = n)
    (hsrc : ∀ j v, ((List.range n).map fun i => Value.int .u8 (f i))[j]? = some v → w0.cell? (x.add j) = some v) (hb : Below w.heap.size w w0) :
    ∃ wc, (Builtin.copy_ #[22, 22] 3 #[.slice (some ⟨w.heap.size, 0, none⟩) n n, .slice (some x) n c]).run Trym.prog w0 = .ok (goInt n) wc ∧ Hid (Row wc w.heap.size n f) ∧ w.heap.size < wc.heap.size ∧ Below w.heap.size w wc := by
  have hr := run_copy_row (P := Trym.prog) w0 22 22 3 5 w.heap.size 0 n n x n c cur.toArray 5 ((List.range n).map fun i => Value.int .u8 (f i)) Trym.underlying22 size5 hcur (by simp) hsrc (by simp [hcl]) (bytes_one n f)
  have e : cur.toArray.toList.take 0 ++ ((List.range n).map fun i => Value.int .u8 (f i)) ++ cur.toArray.toList.drop (0 + ((List.range n).map fun i => Value.int .u8 (f i)).length) = (List.range n).map fun i => Value.int .u8 (f i) := by simp [hcl]
  rw [e] at hr
  simp only [List.length_map, List.length_range] at hr
  have hg := setRow_heap w0 w.heap.size cur.toArray ((List.range n).map fun i => Value.int .u8 (f i)).toArray 5 (0, 0) hcur
  refine ⟨_, hr, fun i hi => ?_, (Array.getElem?_eq_some_iff.1 hg).1, below_setRow hb (Nat.le_refl _) _⟩
  simp [World.cell?, hg, hi]

/-- 'copy(zzc, s)' without an element. -/
theorem copy_run_none (w0 : World) (a a' : Option Addr) (c : Nat) : (Builtin.copy_ #[22, 22] 3 #[.slice a 0 0, .slice a' 0 c]).run Trym.prog w0 = .ok (goInt 0) w0 :=
  run_copy_none (P := Trym.prog) w0 22 22 3 5 a a' 0 0 0 c Trym.underlying22 size5 rfl

/-- ZZfillBlocks, the length that it comes to under a name. -/
theorem fill6S (S : Nat) (g n c : Nat) (f : Nat → Int) (b : Nat) (w : World) (hS : Hid (S = fill n b)) (h1 : 1 ≤ n) (hn : n ≤ 1114112) (hnc : n ≤ c) (hb1 : 1 ≤ b) (hb2 : b ≤ 65536) (hg : g < w.heap.size) (hrow : Hid (Row w g n f)) :
    Calls Trym.prog 6 #[.slice (some ⟨g, 0, none⟩) n c, .int .i64 b] w fun e w' =>
      e = .returned (.slice (some ⟨w.heap.size, 0, none⟩) S S) ∧ Hid (Row w' w.heap.size S (fun i => f (i % n))) ∧ w.heap.size < w'.heap.size ∧ Below w.heap.size w w' := by
  rw [hS.out]
  exact fill6 g n c f b w h1 hn hnc hb1 hb2 hg hrow

theorem Row.same {w : World} {g n : Nat} {f f' : Nat → Int} (h : Row w g n f) (e : ∀ i, i < n → f i = f' i) : Row w g n f' := fun i hi => by rw [← e i hi]; exact h i hi

theorem Row.draws {w : World} {g n : Nat} {f : Nat → Int} (h : Row w g n f) (q : Nat) : Row (w.drewN q) g n f := h

theorem below_draws {B : Nat} {w w' : World} (h : Below B w w') (q : Nat) : Below B w (w'.drewN q) := ⟨h.os, h.tape, h.output, h.size, h.block⟩

theorem mod_int (S b : Nat) (h : S % b = 0) : (S : Int) % (b : Int) = 0 := by
  have : ((S % b : Nat) : Int) = 0 := by rw [h]; rfl
  simpa using this

set_option maxHeartbeats 1000000 in
/-- zzFullFill: r is s filled to whole blocks. -/
theorem full9 (g1 g2 n c1 c2 : Nat) (f1 f2 : Nat → Int) (b : Nat) (w : World) (hn : n ≤ 1048576) (hb1 : 1 ≤ b) (hb2 : b ≤ 65536) (r1 : Hid (Row w g1 n f1)) (r2 : Hid (Row w g2 (fill n b) f2)) (he : Hid (∀ i, i < n → f1 i = f2 i)) :
    Calls Trym.prog 9 #[.slice (some ⟨g1, 0, none⟩) n c1, .slice (some ⟨g2, 0, none⟩) (fill n b) c2, .int .i64 b] w fun e w' => e = .returned (.bool true) ∧ ∃ q, w' = w.drewN q := by
  have hmod := fill_mod n b
  have hge := fill_ge n b hb1
  have hlt := fill_lt n b hb1
  generalize fill n b = S at hmod hge hlt r2 ⊢
  have hm : (S : Int) % (b : Int) = 0 := by
    have : ((S % b : Nat) : Int) = 0 := by rw [hmod]; rfl
    simpa using this
  clear hmod
  go_enter Trym.func9, Trym.ntmps9
  go_wp2_with (go_at_call 10; refine (front10 g1 g2 n S c1 c2 f1 f2 _ hge (by omega) r1 r2 he).mono ?_; rintro e w' ⟨rfl, q, rfl⟩)
  go_ret
  exact ⟨rfl, _, rfl⟩

end Go.Proofs.Qxb6619305aMods.Walks
