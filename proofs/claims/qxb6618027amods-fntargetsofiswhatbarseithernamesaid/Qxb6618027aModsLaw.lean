/-
  SEAT b6618027aM: THE LAW's WALK (function 3).
-/
import Derived.Test.Qxb6618027aModsCalls
import Derived.Deep.RegionWith
namespace Go.Proofs.Qxb6618027aMods.Walks
open Go.RowKit

theorem zz4_any (a0 a1 a2 : ByteArray) (a3 : Int) (a4 a5 a6 : ByteArray) (w : World) (w0 : a0.size ≤ maxLen) (w1 : a1.size ≤ maxLen) (w2 : a2.size ≤ maxLen) (w4 : a4.size ≤ maxLen) (w5 : a5.size ≤ maxLen) (w6 : a6.size ≤ maxLen) :
    Calls Trym.prog 4 #[.string a0, .string a1, .string a2, .int .i64 a3, .string a4, .string a5, .string a6] w fun e w' => ∃ c, e = .returned (.bool c) ∧ w = w' := by
  unfold maxLen at w0 w1 w2 w4 w5 w6
  go_enter Trym.func4, Trym.ntmps4
  go_wp2
  all_goals
    go_ret
    exact ⟨_, rfl, rfl⟩

theorem zz4_small (a0 a1 a2 : ByteArray) (a3 : Int) (a4 a5 a6 : ByteArray) (w : World) (w0 : a0.size ≤ 65536) (w1 : a1.size ≤ 65536) (w2 : a2.size ≤ 65536) (w4 : a4.size ≤ 65536) (w5 : a5.size ≤ 65536) (w6 : a6.size ≤ 65536) :
    Calls Trym.prog 4 #[.string a0, .string a1, .string a2, .int .i64 a3, .string a4, .string a5, .string a6] w fun e w' => e = .returned (.bool true) ∧ w = w' := by
  go_enter Trym.func4, Trym.ntmps4
  go_wp2
  go_ret
  exact ⟨rfl, rfl⟩

/-- One of the strings is longer than the law speaks of. -/
theorem early (a0 a1 a2 : ByteArray) (a3 : Int) (a4 a5 a6 : ByteArray) (w0 : a0.size ≤ maxLen) (w1 : a1.size ≤ maxLen) (w2 : a2.size ≤ maxLen) (w4 : a4.size ≤ maxLen) (w5 : a5.size ≤ maxLen) (w6 : a6.size ≤ maxLen)
    (h : 65536 < a0.size ∨ 65536 < a1.size ∨ 65536 < a2.size ∨ 65536 < a4.size ∨ 65536 < a5.size ∨ 65536 < a6.size) (w : World) :
    Calls Trym.prog 3 #[.string a0, .string a1, .string a2, .int .i64 a3, .string a4, .string a5, .string a6] w fun e w' => e = .returned (.bool true) ∧ Below w.heap.size w w' := by
  go_enter Trym.func3, Trym.ntmps3
  go_wp2_with (first
    | (go_at_call 4; refine (zz4_any _ _ _ _ _ _ _ _ w0 w1 w2 w4 w5 w6).mono ?_; rintro e w' ⟨c, rfl, rfl⟩)
    | (go_at_call 5; exfalso; omega))
  all_goals
    go_ret
    exact ⟨rfl, Below.refl _ _⟩

/-- A cell of the two identities that the law lays ahead of TargetsOf. -/
theorem cells_id {w wx : World} {x0 x1 x2 y0 y1 y2 : ByteArray} {g0 : Int} (hb : Below ((w.alloc (.cells #[.string x0, .string x1, .string x2, .int .i64 g0] 24)).alloc (.cells #[.string y0, .string y1, .string y2, .int .i64 g0] 24)).heap.size ((w.alloc (.cells #[.string x0, .string x1, .string x2, .int .i64 g0] 24)).alloc (.cells #[.string y0, .string y1, .string y2, .int .i64 g0] 24)) wx) :
    w.heap.size + 1 < wx.heap.size ∧ Below w.heap.size w wx ∧
    wx.cell? ⟨w.heap.size, 0, none⟩ = some (.string x0) ∧ wx.cell? ⟨w.heap.size, 1, none⟩ = some (.string x1) ∧ wx.cell? ⟨w.heap.size, 2, none⟩ = some (.string x2) ∧ wx.cell? ⟨w.heap.size, 3, none⟩ = some (.int .i64 g0) ∧
    wx.cell? ⟨w.heap.size + 1, 0, none⟩ = some (.string y0) ∧ wx.cell? ⟨w.heap.size + 1, 1, none⟩ = some (.string y1) ∧ wx.cell? ⟨w.heap.size + 1, 2, none⟩ = some (.string y2) ∧ wx.cell? ⟨w.heap.size + 1, 3, none⟩ = some (.int .i64 g0) := by
  have hs := hb.size
  simp at hs
  refine ⟨by omega, (((Below.refl _ _).alloc (Nat.le_refl _) _).alloc (by simp) _).trans (hb.mono (by simp; omega)), ?_, ?_, ?_, ?_, ?_, ?_, ?_, ?_⟩
  all_goals exact (hb.cell (by simp <;> omega)).trans (by simp)

/-- A world that has grown out of W: what was there is as it was. -/
structure Later (W : World) where
  now : World
  grown : Below W.heap.size W now

/-- A REGION THAT DRAWS ITS ORDER, ITS CALLS MAKING MEMORY: the theorem 'wp_region_quiet' for the worlds that have grown out of W. -/
theorem wp_region_later {P : Program} {id : Nat} {Q : Exit → Act → World → Prop} {a : Act} {w : World} {l : List Oper} (W : World) (hm : P.follows .mixedOrders = true) (hB : Region.lexB .any l.toArray = true) (hb : Below W.heap.size W w)
    (h : wpQuiet P l.toArray (fun w' => ∃ s : Later W, w' = s.now) (fun a' => ∀ w', (∃ s : Later W, w' = s.now) → Q .normal a' w') l a) : (Code.region id l.toArray true).wp P Q a w :=
  wp_region_quiet (C := fun w' => ∃ s : Later W, w' = s.now) hm hB ⟨⟨_, hb.drew⟩, rfl⟩ (by simpa using h)

theorem later_call {P : Program} {f : FuncId} {args : Array Value} {W : World} {s : Later W} {v : Value} (h : Calls P f args s.now fun e w' => e = .returned v ∧ Below W.heap.size W w') :
    Calls P f args s.now fun e w'' => e = .returned v ∧ ∃ s' : Later W, w'' = s'.now :=
  h.mono fun _ _ ⟨he, hb⟩ => ⟨he, ⟨_, hb⟩, rfl⟩

theorem later_cell {W : World} {b o : Nat} {v : Value} (hb : b < W.heap.size) (h : W.cell? ⟨b, o, none⟩ = some v) (s : Later W) : s.now.cell? ⟨b, o, none⟩ = some v := (s.grown.cell (p := ⟨b, o, none⟩) hb).trans h

/-- What the law knows of a world that has grown out of wx. -/
structure Facts (w : World) (wx : World) (g : Nat) (l : List (ByteArray × ByteArray)) (x0 x1 x2 y0 : ByteArray) (g0 : Int) : Prop where
  sz : w.heap.size + 1 < wx.heap.size
  low : Below w.heap.size w wx
  lt : g < wx.heap.size
  tab : Tab wx g l
  a0 : wx.cell? ⟨w.heap.size, 0, none⟩ = some (.string x0)
  a1 : wx.cell? ⟨w.heap.size, 1, none⟩ = some (.string x1)
  a2 : wx.cell? ⟨w.heap.size, 2, none⟩ = some (.string x2)
  a3 : wx.cell? ⟨w.heap.size, 3, none⟩ = some (.int .i64 g0)
  b0 : wx.cell? ⟨w.heap.size + 1, 0, none⟩ = some (.string y0)
  b1 : wx.cell? ⟨w.heap.size + 1, 1, none⟩ = some (.string x1)
  b2 : wx.cell? ⟨w.heap.size + 1, 2, none⟩ = some (.string x2)
  b3 : wx.cell? ⟨w.heap.size + 1, 3, none⟩ = some (.int .i64 g0)

set_option maxHeartbeats 4000000 in
/-- The two names agree: 3 targets. -/
theorem main_3 (jt bot bii : ByteArray) (gen : Int) (tb kind value : ByteArray) (w0 : jt.size ≤ 65536) (w1 : bot.size ≤ 65536) (w2 : bii.size ≤ 65536) (w4 : tb.size ≤ 65536) (w5 : kind.size ≤ 65536) (w6 : value.size ≤ 65536)
    (hc : (bot.toList == tb.toList) = true) (w : World) :
    Calls Trym.prog 3 #[.string jt, .string bot, .string bii, .int .i64 gen, .string tb, .string kind, .string value] w fun e w' => e = .returned (.bool true) ∧ Below w.heap.size w w' := by
  obtain ⟨l, hl, hn, hcall⟩ : ∃ l, Hid (l = TT jt tb bii bot) ∧ Hid (l.length = 3) ∧ Hid (∀ w, Calls Trym.prog 5 #[.agg #[.string bot, .string jt, .string bii, .int .i64 gen], .string tb] w fun e w' =>
      ∃ g c, e = .returned (.slice (some ⟨g, 0, none⟩) 3 c) ∧ w.heap.size ≤ g ∧ g < w'.heap.size ∧ Hid (Tab w' g l) ∧ Below w.heap.size w w') :=
    ⟨_, rfl, len_same _ _ _ _ hc, fun w => targets_in bot jt bii gen tb 3 (len_same _ _ _ _ hc) w⟩
  go_enter Trym.func3, Trym.ntmps3
  go_wp2_with (first
    | (go_at_call 4; refine (zz4_small _ _ _ _ _ _ _ _ w0 w1 w2 w4 w5 w6).mono ?_; rintro e w' ⟨rfl, rfl⟩)
    | (go_at_call 5; refine (hcall.out _).mono ?_; rintro e wx ⟨g, cp, rfl, hg1, hg2, htab, hb⟩))
  have F : Facts w wx g l bot jt bii tb gen := by
    obtain ⟨q1, q2, q3, q4, q5, q6, q7, q8, q9, q10⟩ := cells_id hb
    exact ⟨q1, q2, hg2, htab.out, q3, q4, q5, q6, q7, q8, q9, q10⟩
  clear hb hg1 hcall htab
  go_loopw [19] (fun i wr => ∃ k : Nat, k ≤ 3 ∧ i = .int .i64 k ∧ Below wx.heap.size wx wr) (fun i _ => 3 - (intOf i).toNat)
  case atStart => exact ⟨0, Nat.zero_le _, rfl, Below.refl _ _⟩
  case round =>
    obtain ⟨k, hk, rfl, hbr⟩ := hrel
    by_cases hlt : k < 3
    · obtain ⟨wo, hwo⟩ : ∃ wo : World, Hid (wo = wr) := ⟨wr, rfl⟩
      obtain ⟨p, hp⟩ : ∃ p, Hid (l[k]? = some p) := ⟨l[k]'(by have := hn.out; omega), List.getElem?_eq_getElem (by have := hn.out; omega)⟩
      go_wp2
      go_loopw [20] (fun j wr => ∃ m : Nat, k + 1 ≤ m ∧ m ≤ 3 ∧ j = .int .i64 m ∧ Below wx.heap.size wx wr) (fun j _ => 3 - (intOf j).toNat)
      case atStart => exact ⟨k + 1, Nat.le_refl _, by omega, by go_num, hbr⟩
      case round =>
        obtain ⟨m, hkm, hm, rfl, hbi⟩ := hrel
        by_cases hlm : m < 3
        · obtain ⟨q, hq⟩ : ∃ q, Hid (l[m]? = some q) := ⟨l[m]'(by have := hn.out; omega), List.getElem?_eq_getElem (by have := hn.out; omega)⟩
          have hne : Hid (eqT p q = false) := apart_TT jt tb bii bot k m p q (by omega) (by rw [← hl.out]; exact hp.out) (by rw [← hl.out]; exact hq.out)
          obtain ⟨c1, c2⟩ := F.tab.below hbi F.lt k p hp
          obtain ⟨c3, c4⟩ := F.tab.below hbi F.lt m q hq
          by_cases h1 : (p.1.toList == q.1.toList) = true
          · have h2 : (p.2.toList == q.2.toList) = false := by
              have e := hne.out
              rw [eqT, h1, Bool.true_and] at e
              exact e
            go_wp2
            go_quiet (fail)
            go_wp2
            go_roundw
            case rel => exact ⟨m + 1, by omega, by omega, by go_num, below_draws hbi _⟩
            case measure => simp [intOf]; omega
          · have h1' : (p.1.toList == q.1.toList) = false := by simpa using h1
            clear h1
            go_wp2
            go_quiet (fail)
            go_wp2
            go_roundw
            case rel => exact ⟨m + 1, by omega, by omega, by go_num, below_draws hbi _⟩
            case measure => simp [intOf]; omega
        · go_wp2
          go_roundw
          case rel => exact ⟨k + 1, by omega, by go_num, hbi⟩
          case measure => simp [intOf]; omega
    · have hJ : Hid (hasT l (kJ, jt) = true) := by show _ = _; rw [hl.out]; exact has_J _ _ _ _
      have hB1 : Hid (hasT l (kB, tb) = true) := by show _ = _; rw [hl.out]; exact has_B1 _ _ _ _
      have hB2 : Hid (hasT l (kB, bot) = true) := by show _ = _; rw [hl.out]; exact has_B2 _ _ _ _
      have hI : Hid (hasT l (kI, bii) = true) := by show _ = _; rw [hl.out]; exact has_I _ _ _ _
      clear hc
      go_wp2_with fail
      clear hlt hk
      refine (has_in hn (by omega) F.lt F.tab cp _ jt true hJ _ hbr).mono ?_
      rintro e wa ⟨rfl, hba⟩
      go_wp2_with fail
      refine (has_in hn (by omega) F.lt F.tab cp _ tb true hB1 _ hba).mono ?_
      rintro e wb ⟨rfl, hbb⟩
      go_wp2_with fail
      refine (has_in hn (by omega) F.lt F.tab cp _ bot true hB2 _ hbb).mono ?_
      rintro e wc ⟨rfl, hbc⟩
      go_wp2_with fail
      refine (has_in hn (by omega) F.lt F.tab cp _ bii true hI _ hbc).mono ?_
      rintro e wd ⟨rfl, hbd⟩
      clear hbr hba hbb hbc hJ hB1 hB2 hI
      go_wp2_with fail
      go_loopw [21] (fun i wr => ∃ k : Nat, k ≤ 3 ∧ i = .int .i64 k ∧ Below wx.heap.size wx wr) (fun i _ => 3 - (intOf i).toNat)
      case atStart => exact ⟨0, Nat.zero_le _, rfl, hbd⟩
      case round =>
        clear hbd
        obtain ⟨k, hk, rfl, hbr⟩ := hrel
        by_cases hlt : k < 3
        · obtain ⟨p, hp⟩ : ∃ p, Hid (l[k]? = some p) := ⟨l[k]'(by have := hn.out; omega), List.getElem?_eq_getElem (by have := hn.out; omega)⟩
          obtain ⟨e1, e2⟩ := F.tab k p hp
          have c1 := later_cell F.lt e1
          have c2 := later_cell F.lt e2
          have c3 := later_cell (by have := F.sz; omega) F.a0
          have c4 := later_cell (by have := F.sz; omega) F.a1
          have c5 := later_cell (by have := F.sz; omega) F.a2
          have c6 := later_cell (by have := F.sz; omega) F.a3
          have c7 := later_cell F.sz F.b0
          have c8 := later_cell F.sz F.b1
          have c9 := later_cell F.sz F.b2
          have c0 := later_cell F.sz F.b3
          have some_later : Nonempty (Later wx) := ⟨⟨wx, Below.refl _ _⟩⟩
          clear e1 e2
          by_cases hv : hasT (T3 jt bot bii) p = true
          · have hv1 : Hid (hasT (T3 jt bot bii) (p.1, p.2) = true) := hv
            clear hv
            go_wp2_with fail
            refine wp_region_later wx (by kernel_rfl) (by kernel_rfl) hbr ?_
            repeat (go_big_quiet_step ((go_at_call 7; exact later_call (matches_in _ _ _ _ _ _ true hv1 _ (Later.grown _)))))
            refine wpQuiet_nil ?_
            rintro _ ⟨s, rfl⟩
            have hbs := s.grown
            go_wp2
            go_roundw
            case rel => exact ⟨k + 1, by omega, by go_num, hbs⟩
            case measure => simp [intOf]; omega
          · have hv1 : Hid (hasT (T3 jt bot bii) (p.1, p.2) = false) := by show _ = _; simpa using hv
            have hv2 : Hid (hasT (T3 jt tb bii) (p.1, p.2) = true) := bars_TT jt tb bii bot k p (by rw [← hl.out]; exact hp.out) hv1.out
            clear hv
            go_wp2_with fail
            refine wp_region_later wx (by kernel_rfl) (by kernel_rfl) hbr ?_
            repeat (go_big_quiet_step (first | (go_at_call_of 7 (Value.agg #[.string bot, .string jt, .string bii, .int .i64 gen]); exact later_call (matches_in _ _ _ _ _ _ false hv1 _ (Later.grown _))) | (go_at_call_of 7 (Value.agg #[.string tb, .string jt, .string bii, .int .i64 gen]); exact later_call (matches_in _ _ _ _ _ _ true hv2 _ (Later.grown _)))))
            refine wpQuiet_nil ?_
            rintro _ ⟨s, rfl⟩
            have hbs := s.grown
            go_wp2
            go_roundw
            case rel => exact ⟨k + 1, by omega, by go_num, hbs⟩
            case measure => simp [intOf]; omega
        · go_wp2_with fail
          obtain ⟨wy, hwy⟩ : ∃ wy, Hid (wy = wr.alloc (.cells #[.string kind, .string value] 29)) := ⟨_, rfl⟩
          rw [← hwy.out]
          have hsr := hbr.size
          have hsy : wy.heap.size = wr.heap.size + 1 := by rw [hwy.out]; simp
          have hwxy : Below wx.heap.size wx wy := by rw [hwy.out]; exact hbr.alloc hsr _
          have c1 : ∀ s : Later wy, s.now.cell? ⟨wr.heap.size, 0, none⟩ = some (.string kind) := later_cell (by omega) (by rw [hwy.out]; simp)
          have c2 : ∀ s : Later wy, s.now.cell? ⟨wr.heap.size, 1, none⟩ = some (.string value) := later_cell (by omega) (by rw [hwy.out]; simp)
          have hsz := F.sz
          have c3 : ∀ s : Later wy, s.now.cell? ⟨w.heap.size, 0, none⟩ = some (.string bot) := later_cell (by omega) ((hwxy.cell (by simp; omega)).trans F.a0)
          have c4 : ∀ s : Later wy, s.now.cell? ⟨w.heap.size, 1, none⟩ = some (.string jt) := later_cell (by omega) ((hwxy.cell (by simp; omega)).trans F.a1)
          have c5 : ∀ s : Later wy, s.now.cell? ⟨w.heap.size, 2, none⟩ = some (.string bii) := later_cell (by omega) ((hwxy.cell (by simp; omega)).trans F.a2)
          have c6 : ∀ s : Later wy, s.now.cell? ⟨w.heap.size, 3, none⟩ = some (.int .i64 gen) := later_cell (by omega) ((hwxy.cell (by simp; omega)).trans F.a3)
          have c7 : ∀ s : Later wy, s.now.cell? ⟨w.heap.size + 1, 0, none⟩ = some (.string tb) := later_cell (by omega) ((hwxy.cell (by simp; omega)).trans F.b0)
          have c8 : ∀ s : Later wy, s.now.cell? ⟨w.heap.size + 1, 1, none⟩ = some (.string jt) := later_cell (by omega) ((hwxy.cell (by simp; omega)).trans F.b1)
          have c9 : ∀ s : Later wy, s.now.cell? ⟨w.heap.size + 1, 2, none⟩ = some (.string bii) := later_cell (by omega) ((hwxy.cell (by simp; omega)).trans F.b2)
          have c0 : ∀ s : Later wy, s.now.cell? ⟨w.heap.size + 1, 3, none⟩ = some (.int .i64 gen) := later_cell (by omega) ((hwxy.cell (by simp; omega)).trans F.b3)
          have hlt2 : g < wy.heap.size := by have := F.lt; omega
          have htab2 : Hid (Tab wy g l) := F.tab.below hwxy F.lt
          have some_later : Nonempty (Later wy) := ⟨⟨wy, Below.refl _ _⟩⟩
          have hlow : Below w.heap.size w wy := F.low.trans (hwxy.mono (by omega))
          have hszy : w.heap.size ≤ wy.heap.size := by omega
          have hT := has_TT jt tb bii bot (kind, value)
          rw [← hl.out] at hT
          clear hbr hsr hwxy hsz
          by_cases hv : hasT (T3 jt bot bii) (kind, value) = true
          · have hv1 : Hid (hasT (T3 jt bot bii) (kind, value) = true) := hv
            have hv0 : Hid (hasT l (kind, value) = true) := by show _ = _; rw [hT, hv]; rfl
            clear hv hT hsy
            refine wp_region_later wy (by kernel_rfl) (by kernel_rfl) (Below.refl _ _) ?_
            repeat (go_big_quiet_step (first | (go_at_call 6; exact later_call (has_in hn (by omega) hlt2 htab2 cp _ _ true hv0 _ (Later.grown _))) | (go_at_call_of 7 (Value.agg #[.string bot, .string jt, .string bii, .int .i64 gen]); exact later_call (matches_in _ _ _ _ _ _ true hv1 _ (Later.grown _)))))
            refine wpQuiet_nil ?_
            rintro _ ⟨s, rfl⟩
            have hbs := s.grown
            go_wp2
            go_ret
            exact ⟨rfl, hlow.trans (hbs.mono hszy)⟩
          · have hv1 : Hid (hasT (T3 jt bot bii) (kind, value) = false) := by show _ = _; simpa using hv
            rw [hv1.out, Bool.false_or] at hT
            obtain ⟨v, hv2⟩ : ∃ v, Hid (hasT (T3 jt tb bii) (kind, value) = v) := ⟨_, rfl⟩
            have hv0 : Hid (hasT l (kind, value) = v) := hT.trans hv2.out
            clear hv hT hsy
            cases v
            · refine wp_region_later wy (by kernel_rfl) (by kernel_rfl) (Below.refl _ _) ?_
              repeat (go_big_quiet_step (first | (go_at_call 6; exact later_call (has_in hn (by omega) hlt2 htab2 cp _ _ false hv0 _ (Later.grown _))) | (go_at_call_of 7 (Value.agg #[.string bot, .string jt, .string bii, .int .i64 gen]); exact later_call (matches_in _ _ _ _ _ _ false hv1 _ (Later.grown _))) | (go_at_call_of 7 (Value.agg #[.string tb, .string jt, .string bii, .int .i64 gen]); exact later_call (matches_in _ _ _ _ _ _ false hv2 _ (Later.grown _)))))
              refine wpQuiet_nil ?_
              rintro _ ⟨s, rfl⟩
              have hbs := s.grown
              go_wp2
              go_ret
              exact ⟨rfl, hlow.trans (hbs.mono hszy)⟩
            · refine wp_region_later wy (by kernel_rfl) (by kernel_rfl) (Below.refl _ _) ?_
              repeat (go_big_quiet_step (first | (go_at_call 6; exact later_call (has_in hn (by omega) hlt2 htab2 cp _ _ true hv0 _ (Later.grown _))) | (go_at_call_of 7 (Value.agg #[.string bot, .string jt, .string bii, .int .i64 gen]); exact later_call (matches_in _ _ _ _ _ _ false hv1 _ (Later.grown _))) | (go_at_call_of 7 (Value.agg #[.string tb, .string jt, .string bii, .int .i64 gen]); exact later_call (matches_in _ _ _ _ _ _ true hv2 _ (Later.grown _)))))
              refine wpQuiet_nil ?_
              rintro _ ⟨s, rfl⟩
              have hbs := s.grown
              go_wp2
              go_ret
              exact ⟨rfl, hlow.trans (hbs.mono hszy)⟩

set_option maxHeartbeats 4000000 in
/-- The two names differ: 4 targets. -/
theorem main_4 (jt bot bii : ByteArray) (gen : Int) (tb kind value : ByteArray) (w0 : jt.size ≤ 65536) (w1 : bot.size ≤ 65536) (w2 : bii.size ≤ 65536) (w4 : tb.size ≤ 65536) (w5 : kind.size ≤ 65536) (w6 : value.size ≤ 65536)
    (hc : (bot.toList == tb.toList) = false) (w : World) :
    Calls Trym.prog 3 #[.string jt, .string bot, .string bii, .int .i64 gen, .string tb, .string kind, .string value] w fun e w' => e = .returned (.bool true) ∧ Below w.heap.size w w' := by
  obtain ⟨l, hl, hn, hcall⟩ : ∃ l, Hid (l = TT jt tb bii bot) ∧ Hid (l.length = 4) ∧ Hid (∀ w, Calls Trym.prog 5 #[.agg #[.string bot, .string jt, .string bii, .int .i64 gen], .string tb] w fun e w' =>
      ∃ g c, e = .returned (.slice (some ⟨g, 0, none⟩) 4 c) ∧ w.heap.size ≤ g ∧ g < w'.heap.size ∧ Hid (Tab w' g l) ∧ Below w.heap.size w w') :=
    ⟨_, rfl, len_other _ _ _ _ hc, fun w => targets_in bot jt bii gen tb 4 (len_other _ _ _ _ hc) w⟩
  go_enter Trym.func3, Trym.ntmps3
  go_wp2_with (first
    | (go_at_call 4; refine (zz4_small _ _ _ _ _ _ _ _ w0 w1 w2 w4 w5 w6).mono ?_; rintro e w' ⟨rfl, rfl⟩)
    | (go_at_call 5; refine (hcall.out _).mono ?_; rintro e wx ⟨g, cp, rfl, hg1, hg2, htab, hb⟩))
  have F : Facts w wx g l bot jt bii tb gen := by
    obtain ⟨q1, q2, q3, q4, q5, q6, q7, q8, q9, q10⟩ := cells_id hb
    exact ⟨q1, q2, hg2, htab.out, q3, q4, q5, q6, q7, q8, q9, q10⟩
  clear hb hg1 hcall htab
  go_loopw [19] (fun i wr => ∃ k : Nat, k ≤ 4 ∧ i = .int .i64 k ∧ Below wx.heap.size wx wr) (fun i _ => 4 - (intOf i).toNat)
  case atStart => exact ⟨0, Nat.zero_le _, rfl, Below.refl _ _⟩
  case round =>
    obtain ⟨k, hk, rfl, hbr⟩ := hrel
    by_cases hlt : k < 4
    · obtain ⟨wo, hwo⟩ : ∃ wo : World, Hid (wo = wr) := ⟨wr, rfl⟩
      obtain ⟨p, hp⟩ : ∃ p, Hid (l[k]? = some p) := ⟨l[k]'(by have := hn.out; omega), List.getElem?_eq_getElem (by have := hn.out; omega)⟩
      go_wp2
      go_loopw [20] (fun j wr => ∃ m : Nat, k + 1 ≤ m ∧ m ≤ 4 ∧ j = .int .i64 m ∧ Below wx.heap.size wx wr) (fun j _ => 4 - (intOf j).toNat)
      case atStart => exact ⟨k + 1, Nat.le_refl _, by omega, by go_num, hbr⟩
      case round =>
        obtain ⟨m, hkm, hm, rfl, hbi⟩ := hrel
        by_cases hlm : m < 4
        · obtain ⟨q, hq⟩ : ∃ q, Hid (l[m]? = some q) := ⟨l[m]'(by have := hn.out; omega), List.getElem?_eq_getElem (by have := hn.out; omega)⟩
          have hne : Hid (eqT p q = false) := apart_TT jt tb bii bot k m p q (by omega) (by rw [← hl.out]; exact hp.out) (by rw [← hl.out]; exact hq.out)
          obtain ⟨c1, c2⟩ := F.tab.below hbi F.lt k p hp
          obtain ⟨c3, c4⟩ := F.tab.below hbi F.lt m q hq
          by_cases h1 : (p.1.toList == q.1.toList) = true
          · have h2 : (p.2.toList == q.2.toList) = false := by
              have e := hne.out
              rw [eqT, h1, Bool.true_and] at e
              exact e
            go_wp2
            go_quiet (fail)
            go_wp2
            go_roundw
            case rel => exact ⟨m + 1, by omega, by omega, by go_num, below_draws hbi _⟩
            case measure => simp [intOf]; omega
          · have h1' : (p.1.toList == q.1.toList) = false := by simpa using h1
            clear h1
            go_wp2
            go_quiet (fail)
            go_wp2
            go_roundw
            case rel => exact ⟨m + 1, by omega, by omega, by go_num, below_draws hbi _⟩
            case measure => simp [intOf]; omega
        · go_wp2
          go_roundw
          case rel => exact ⟨k + 1, by omega, by go_num, hbi⟩
          case measure => simp [intOf]; omega
    · have hJ : Hid (hasT l (kJ, jt) = true) := by show _ = _; rw [hl.out]; exact has_J _ _ _ _
      have hB1 : Hid (hasT l (kB, tb) = true) := by show _ = _; rw [hl.out]; exact has_B1 _ _ _ _
      have hB2 : Hid (hasT l (kB, bot) = true) := by show _ = _; rw [hl.out]; exact has_B2 _ _ _ _
      have hI : Hid (hasT l (kI, bii) = true) := by show _ = _; rw [hl.out]; exact has_I _ _ _ _
      clear hc
      go_wp2_with fail
      clear hlt hk
      refine (has_in hn (by omega) F.lt F.tab cp _ jt true hJ _ hbr).mono ?_
      rintro e wa ⟨rfl, hba⟩
      go_wp2_with fail
      refine (has_in hn (by omega) F.lt F.tab cp _ tb true hB1 _ hba).mono ?_
      rintro e wb ⟨rfl, hbb⟩
      go_wp2_with fail
      refine (has_in hn (by omega) F.lt F.tab cp _ bot true hB2 _ hbb).mono ?_
      rintro e wc ⟨rfl, hbc⟩
      go_wp2_with fail
      refine (has_in hn (by omega) F.lt F.tab cp _ bii true hI _ hbc).mono ?_
      rintro e wd ⟨rfl, hbd⟩
      clear hbr hba hbb hbc hJ hB1 hB2 hI
      go_wp2_with fail
      go_loopw [21] (fun i wr => ∃ k : Nat, k ≤ 4 ∧ i = .int .i64 k ∧ Below wx.heap.size wx wr) (fun i _ => 4 - (intOf i).toNat)
      case atStart => exact ⟨0, Nat.zero_le _, rfl, hbd⟩
      case round =>
        clear hbd
        obtain ⟨k, hk, rfl, hbr⟩ := hrel
        by_cases hlt : k < 4
        · obtain ⟨p, hp⟩ : ∃ p, Hid (l[k]? = some p) := ⟨l[k]'(by have := hn.out; omega), List.getElem?_eq_getElem (by have := hn.out; omega)⟩
          obtain ⟨e1, e2⟩ := F.tab k p hp
          have c1 := later_cell F.lt e1
          have c2 := later_cell F.lt e2
          have c3 := later_cell (by have := F.sz; omega) F.a0
          have c4 := later_cell (by have := F.sz; omega) F.a1
          have c5 := later_cell (by have := F.sz; omega) F.a2
          have c6 := later_cell (by have := F.sz; omega) F.a3
          have c7 := later_cell F.sz F.b0
          have c8 := later_cell F.sz F.b1
          have c9 := later_cell F.sz F.b2
          have c0 := later_cell F.sz F.b3
          have some_later : Nonempty (Later wx) := ⟨⟨wx, Below.refl _ _⟩⟩
          clear e1 e2
          by_cases hv : hasT (T3 jt bot bii) p = true
          · have hv1 : Hid (hasT (T3 jt bot bii) (p.1, p.2) = true) := hv
            clear hv
            go_wp2_with fail
            refine wp_region_later wx (by kernel_rfl) (by kernel_rfl) hbr ?_
            repeat (go_big_quiet_step ((go_at_call 7; exact later_call (matches_in _ _ _ _ _ _ true hv1 _ (Later.grown _)))))
            refine wpQuiet_nil ?_
            rintro _ ⟨s, rfl⟩
            have hbs := s.grown
            go_wp2
            go_roundw
            case rel => exact ⟨k + 1, by omega, by go_num, hbs⟩
            case measure => simp [intOf]; omega
          · have hv1 : Hid (hasT (T3 jt bot bii) (p.1, p.2) = false) := by show _ = _; simpa using hv
            have hv2 : Hid (hasT (T3 jt tb bii) (p.1, p.2) = true) := bars_TT jt tb bii bot k p (by rw [← hl.out]; exact hp.out) hv1.out
            clear hv
            go_wp2_with fail
            refine wp_region_later wx (by kernel_rfl) (by kernel_rfl) hbr ?_
            repeat (go_big_quiet_step (first | (go_at_call_of 7 (Value.agg #[.string bot, .string jt, .string bii, .int .i64 gen]); exact later_call (matches_in _ _ _ _ _ _ false hv1 _ (Later.grown _))) | (go_at_call_of 7 (Value.agg #[.string tb, .string jt, .string bii, .int .i64 gen]); exact later_call (matches_in _ _ _ _ _ _ true hv2 _ (Later.grown _)))))
            refine wpQuiet_nil ?_
            rintro _ ⟨s, rfl⟩
            have hbs := s.grown
            go_wp2
            go_roundw
            case rel => exact ⟨k + 1, by omega, by go_num, hbs⟩
            case measure => simp [intOf]; omega
        · go_wp2_with fail
          obtain ⟨wy, hwy⟩ : ∃ wy, Hid (wy = wr.alloc (.cells #[.string kind, .string value] 29)) := ⟨_, rfl⟩
          rw [← hwy.out]
          have hsr := hbr.size
          have hsy : wy.heap.size = wr.heap.size + 1 := by rw [hwy.out]; simp
          have hwxy : Below wx.heap.size wx wy := by rw [hwy.out]; exact hbr.alloc hsr _
          have c1 : ∀ s : Later wy, s.now.cell? ⟨wr.heap.size, 0, none⟩ = some (.string kind) := later_cell (by omega) (by rw [hwy.out]; simp)
          have c2 : ∀ s : Later wy, s.now.cell? ⟨wr.heap.size, 1, none⟩ = some (.string value) := later_cell (by omega) (by rw [hwy.out]; simp)
          have hsz := F.sz
          have c3 : ∀ s : Later wy, s.now.cell? ⟨w.heap.size, 0, none⟩ = some (.string bot) := later_cell (by omega) ((hwxy.cell (by simp; omega)).trans F.a0)
          have c4 : ∀ s : Later wy, s.now.cell? ⟨w.heap.size, 1, none⟩ = some (.string jt) := later_cell (by omega) ((hwxy.cell (by simp; omega)).trans F.a1)
          have c5 : ∀ s : Later wy, s.now.cell? ⟨w.heap.size, 2, none⟩ = some (.string bii) := later_cell (by omega) ((hwxy.cell (by simp; omega)).trans F.a2)
          have c6 : ∀ s : Later wy, s.now.cell? ⟨w.heap.size, 3, none⟩ = some (.int .i64 gen) := later_cell (by omega) ((hwxy.cell (by simp; omega)).trans F.a3)
          have c7 : ∀ s : Later wy, s.now.cell? ⟨w.heap.size + 1, 0, none⟩ = some (.string tb) := later_cell (by omega) ((hwxy.cell (by simp; omega)).trans F.b0)
          have c8 : ∀ s : Later wy, s.now.cell? ⟨w.heap.size + 1, 1, none⟩ = some (.string jt) := later_cell (by omega) ((hwxy.cell (by simp; omega)).trans F.b1)
          have c9 : ∀ s : Later wy, s.now.cell? ⟨w.heap.size + 1, 2, none⟩ = some (.string bii) := later_cell (by omega) ((hwxy.cell (by simp; omega)).trans F.b2)
          have c0 : ∀ s : Later wy, s.now.cell? ⟨w.heap.size + 1, 3, none⟩ = some (.int .i64 gen) := later_cell (by omega) ((hwxy.cell (by simp; omega)).trans F.b3)
          have hlt2 : g < wy.heap.size := by have := F.lt; omega
          have htab2 : Hid (Tab wy g l) := F.tab.below hwxy F.lt
          have some_later : Nonempty (Later wy) := ⟨⟨wy, Below.refl _ _⟩⟩
          have hlow : Below w.heap.size w wy := F.low.trans (hwxy.mono (by omega))
          have hszy : w.heap.size ≤ wy.heap.size := by omega
          have hT := has_TT jt tb bii bot (kind, value)
          rw [← hl.out] at hT
          clear hbr hsr hwxy hsz
          by_cases hv : hasT (T3 jt bot bii) (kind, value) = true
          · have hv1 : Hid (hasT (T3 jt bot bii) (kind, value) = true) := hv
            have hv0 : Hid (hasT l (kind, value) = true) := by show _ = _; rw [hT, hv]; rfl
            clear hv hT hsy
            refine wp_region_later wy (by kernel_rfl) (by kernel_rfl) (Below.refl _ _) ?_
            repeat (go_big_quiet_step (first | (go_at_call 6; exact later_call (has_in hn (by omega) hlt2 htab2 cp _ _ true hv0 _ (Later.grown _))) | (go_at_call_of 7 (Value.agg #[.string bot, .string jt, .string bii, .int .i64 gen]); exact later_call (matches_in _ _ _ _ _ _ true hv1 _ (Later.grown _)))))
            refine wpQuiet_nil ?_
            rintro _ ⟨s, rfl⟩
            have hbs := s.grown
            go_wp2
            go_ret
            exact ⟨rfl, hlow.trans (hbs.mono hszy)⟩
          · have hv1 : Hid (hasT (T3 jt bot bii) (kind, value) = false) := by show _ = _; simpa using hv
            rw [hv1.out, Bool.false_or] at hT
            obtain ⟨v, hv2⟩ : ∃ v, Hid (hasT (T3 jt tb bii) (kind, value) = v) := ⟨_, rfl⟩
            have hv0 : Hid (hasT l (kind, value) = v) := hT.trans hv2.out
            clear hv hT hsy
            cases v
            · refine wp_region_later wy (by kernel_rfl) (by kernel_rfl) (Below.refl _ _) ?_
              repeat (go_big_quiet_step (first | (go_at_call 6; exact later_call (has_in hn (by omega) hlt2 htab2 cp _ _ false hv0 _ (Later.grown _))) | (go_at_call_of 7 (Value.agg #[.string bot, .string jt, .string bii, .int .i64 gen]); exact later_call (matches_in _ _ _ _ _ _ false hv1 _ (Later.grown _))) | (go_at_call_of 7 (Value.agg #[.string tb, .string jt, .string bii, .int .i64 gen]); exact later_call (matches_in _ _ _ _ _ _ false hv2 _ (Later.grown _)))))
              refine wpQuiet_nil ?_
              rintro _ ⟨s, rfl⟩
              have hbs := s.grown
              go_wp2
              go_ret
              exact ⟨rfl, hlow.trans (hbs.mono hszy)⟩
            · refine wp_region_later wy (by kernel_rfl) (by kernel_rfl) (Below.refl _ _) ?_
              repeat (go_big_quiet_step (first | (go_at_call 6; exact later_call (has_in hn (by omega) hlt2 htab2 cp _ _ true hv0 _ (Later.grown _))) | (go_at_call_of 7 (Value.agg #[.string bot, .string jt, .string bii, .int .i64 gen]); exact later_call (matches_in _ _ _ _ _ _ false hv1 _ (Later.grown _))) | (go_at_call_of 7 (Value.agg #[.string tb, .string jt, .string bii, .int .i64 gen]); exact later_call (matches_in _ _ _ _ _ _ true hv2 _ (Later.grown _)))))
              refine wpQuiet_nil ?_
              rintro _ ⟨s, rfl⟩
              have hbs := s.grown
              go_wp2
              go_ret
              exact ⟨rfl, hlow.trans (hbs.mono hszy)⟩

end Go.Proofs.Qxb6618027aMods.Walks
