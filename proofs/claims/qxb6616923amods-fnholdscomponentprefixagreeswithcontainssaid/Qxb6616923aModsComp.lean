/-
  THE WALK OF zzComponentsPrefix (function 10): it answers 'comp'.
-/
import Derived.Test.Qxb6616923aModsWalks
import Derived.LoopTactic
import Derived.RegionTactic
import Derived.ChangeAlike
import Derived.Deep.QuietTactic
import Derived.BigQuiet
import Derived.Deep.Draws
namespace Go.Proofs.Qxb6616923aMods.Walks
open Go.RowKit
open Plain

theorem at_byte (s : ByteArray) (k : Nat) (h : k < s.size) : s.data.toList[k]? = some s[k] := by
  rw [List.getElem?_eq_getElem (by simpa using h)]; rfl

theorem byte_no {s : ByteArray} {m : Nat} (h : m < s.size) (hc : ((s[m].toNat : Int) != 47) = false) : Stop s.data.toList m := by
  right
  rw [at_byte s m h]
  have e : (s[m].toNat : Int) = 47 := by simpa using hc
  congr 1
  exact UInt8.toNat_inj.1 (by simpa using (show s[m].toNat = 47 by omega))

theorem byte_yes {s : ByteArray} {k m : Nat} (hno : NoSl s.data.toList k m) (h : m < s.size) (hc : ((s[m].toNat : Int) != 47) = true) : NoSl s.data.toList k (m + 1) := by
  refine nosl_step hno _ (at_byte s m h) fun e => ?_
  rw [e] at hc
  simp at hc

theorem byte_out {s : ByteArray} {m : Nat} (h : ¬ m < s.size) (hm : m ≤ s.size) : Stop s.data.toList m := by
  left
  rw [← Lib.size_eq]
  omega

theorem seg_beq (r n : ByteArray) (k m t : Nat) (c : Bool) (h : (!((r.extract k m).toList == (n.extract k t).toList)) = c) : (seg r.data.toList k m == seg n.data.toList k t) = !c := by
  rw [Lib.extract_toList, Lib.extract_toList] at h
  unfold seg
  rw [← h]
  simp

theorem drew_two (w : World) (q n : Nat) : ∃ p, (w.drewN q).drewN n = w.drewN p := ⟨q + n, by simp⟩

theorem ret_bool {a b : Bool} (h : b = a) : Ending.returned (.bool a) = .returned (.bool b) := by rw [h]

set_option maxHeartbeats 1000000 in
theorem comp10 (r n : ByteArray) (w : World) (hr : r.size ≤ 4096) (hn : n.size ≤ 4096) :
    Calls Trym.prog 10 #[.string r, .string n] w fun e w' => e = .returned (.bool (comp r.data.toList n.data.toList)) ∧ ∃ q, w' = w.drewN q := by
  go_enter Trym.func10, Trym.ntmps10
  go_wp2
  go_loopw [5, 6] (fun i j wr => ∃ k q : Nat, k ≤ r.size ∧ k ≤ n.size ∧ i = .int .i64 k ∧ j = .int .i64 k ∧ Same r.data.toList n.data.toList k ∧ wr = w.drewN q)
    (fun i _ _ => r.size - (intOf i).toNat)
  case atStart => exact ⟨0, 0, Nat.zero_le _, Nat.zero_le _, rfl, rfl, same_start _ _, rfl⟩
  case round =>
    obtain ⟨k, q, hkr, hkn, rfl, rfl, hsame, rfl⟩ := hrel
    go_wp2
    go_loop [7] (fun e => ∃ m : Nat, k ≤ m ∧ m ≤ r.size ∧ e = .int .i64 m ∧ NoSl r.data.toList k m) (fun e => r.size - (intOf e).toNat)
    case atStart => exact ⟨k, Nat.le_refl _, hkr, rfl, nosl_start _ _⟩
    case round =>
      obtain ⟨m, hkm, hmr, rfl, hno⟩ := hrel
      go_wp2
      · have hlt : m < r.size := by assumption
        have hc : ((r[m].toNat : Int) != 47) = true := by assumption
        go_round
        case rel => exact ⟨m + 1, by omega, by omega, by go_num, byte_yes hno hlt hc⟩
        case measure => simp [intOf]; omega
      all_goals
        have hst : Stop r.data.toList m := by first | exact byte_no (by assumption) (by assumption) | exact byte_out (by assumption) hmr
        go_loop [8] (fun e => ∃ t : Nat, k ≤ t ∧ t ≤ n.size ∧ e = .int .i64 t ∧ NoSl n.data.toList k t) (fun e => n.size - (intOf e).toNat)
        case atStart => exact ⟨k, Nat.le_refl _, hkn, rfl, nosl_start _ _⟩
        case round =>
          obtain ⟨t, hkt, htn, rfl, hno2⟩ := hrel
          go_wp2
          · have hlt : t < n.size := by assumption
            have hc : ((n[t].toNat : Int) != 47) = true := by assumption
            go_round
            case rel => exact ⟨t + 1, by omega, by omega, by go_num, byte_yes hno2 hlt hc⟩
            case measure => simp [intOf]; omega
          all_goals
            have hst2 : Stop n.data.toList t := by first | exact byte_no (by assumption) (by assumption) | exact byte_out (by assumption) htn
            go_quiet (fail)
            go_wp2
          all_goals first
            | (have hd : (!((r.extract k m).toList == (n.extract k t).toList)) = true := by assumption
               have R := step_differ hsame hkm hkt hno hno2 hst hst2 (seg_beq _ _ _ _ _ _ hd)
               go_ret
               exact ⟨ret_bool R, by first | exact drew_two _ _ _ | exact ⟨_, rfl⟩⟩)
            | (have hd : (!((r.extract k m).toList == (n.extract k t).toList)) = false := by assumption
               have he : ((m : Int) == (r.size : Int)) = true := by assumption
               have R := Plain.step_end hsame hkm hkt hst2 (seg_beq _ _ _ _ _ _ hd) (by rw [← Lib.size_eq]; have := eq_of_beq he; omega)
               go_ret
               exact ⟨ret_bool R, by first | exact drew_two _ _ _ | exact ⟨_, rfl⟩⟩)
            | (have hd : (!((r.extract k m).toList == (n.extract k t).toList)) = false := by assumption
               have hlm : m < r.size := by assumption
               have he : ((t : Int) == (n.size : Int)) = true := by assumption
               have R := step_short hsame hkm hkt (seg_beq _ _ _ _ _ _ hd) (by rw [← Lib.size_eq]; omega) (by rw [← Lib.size_eq]; have := eq_of_beq he; omega)
               go_ret
               exact ⟨ret_bool R, by first | exact drew_two _ _ _ | exact ⟨_, rfl⟩⟩)
            | (have hd : (!((r.extract k m).toList == (n.extract k t).toList)) = false := by assumption
               have hlm : m < r.size := by assumption
               have hlt : t < n.size := by assumption
               have hq := seg_beq _ _ _ _ _ _ hd
               have hmt := seg_eq_len hkm hkt (by rw [← Lib.size_eq]; omega) (by rw [← Lib.size_eq]; omega) hq
               have R := step_next hsame hkm hkt hst hst2 hq (by rw [← Lib.size_eq]; omega) (by rw [← Lib.size_eq]; omega)
               go_roundw
               case rel => exact ⟨m + 1, _, by omega, by omega, by go_num, by go_num, R, rfl⟩
               case measure => simp [intOf]; omega)

end Go.Proofs.Qxb6616923aMods.Walks
