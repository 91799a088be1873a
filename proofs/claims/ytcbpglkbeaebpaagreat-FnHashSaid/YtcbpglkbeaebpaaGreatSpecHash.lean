/- spec.Hash of the reference: its hash of bytes is 'mur'. Condition: the bytes are there, at most 2^47. -/
import Derived.Test.YtcbpglkbeaebpaaGreatBlock
import Derived.Test.YtcbpglkbeaebpaaGreatBw
namespace Go.Proofs.YtcbpglkbeaebpaaGreat
open Go.RowKit
attribute [local go_sem] s_u_i s_i_u s_ofI s_ofU s_ofU8 s_imul s_iadd s_umul s_uadd s_ixor s_ior s_uxor s_uor s_shr33 s_shr31 s_shr37 s_ixor0 s_uxor0 s_uor0 s_sx s_i_i s_u_u s_u_8 rlN_31 rlN_27 rlN_33 s_pow

set_option maxRecDepth 100000 in
set_option maxHeartbeats 2000000 in
theorem spec_hash_any (b off len cap : Nat) (d : Nat → BitVec 8) (w : World) (hlc : len ≤ cap) (hl : len ≤ 140737488355328) (hm : cap ≤ 9223372036854775807) (hr : RowAt w b off len (fun i => .int .u8 (U8 (d i)))) :
    Calls Tryz.prog 5 #[.slice (some ⟨b, off, none⟩) len cap] w fun e w' => e = .returned (.int .i64 (I64 (mur d len))) ∧ w = w' := by
  have HR := Lib.hid hr
  clear hr
  go_enter Tryz.func5, Tryz.ntmps5
  go_wp2_with fail
  go_loop [3, 4, 6, 7, 8, 9, 20] (fun h1 h2 _ _ _ _ i => ∃ k : Nat, k ≤ len / 16 ∧ i = .int .i64 k ∧ h1 = .int .u64 (U64 (hN d k).1) ∧ h2 = .int .u64 (U64 (hN d k).2)) (fun _ _ _ _ _ _ i => len / 16 - (intOf i).toNat)
  case atStart => exact ⟨0, Nat.zero_le _, rfl, rfl, rfl⟩
  case round =>
    obtain ⟨k, hk, rfl, rfl, rfl⟩ := hrel
    by_cases hlt : k < len / 16
    · have hkz : 16 * (k : Int) + 16 ≤ (len : Int) := by omega
      have hltz : (k : Int) < (len : Int) / 16 := by omega
      go_wp2_with fail
      go_loop [7, 8, 9] (fun k1 k2 j => ∃ m : Nat, m ≤ 8 ∧ j = .int .i64 ((m : Int) - 1) ∧ k1 = .int .u64 (U64 (leK (fun i => d (k * 16 + i)) (8 - m))) ∧ k2 = .int .u64 (U64 (leK (fun i => d (k * 16 + 8 + i)) (8 - m)))) (fun _ _ j => (intOf j + 1).toNat)
      case atStart => exact ⟨8, Nat.le_refl _, rfl, rfl, rfl⟩
      case round =>
        obtain ⟨m, hm8, rfl, rfl, rfl⟩ := hrel
        rcases Nat.eq_zero_or_pos m with h0 | h0
        · subst h0
          go_wp2_with (go_at_call 9; refine (rotated_any _ _ (by decide) _).mono ?_; rintro e w' ⟨rfl, rfl⟩)
          go_round
          case rel => exact ⟨k + 1, by omega, by go_num, by rw [hN_1]; rfl, by rw [hN_2]; rfl⟩
          case measure => simp [intOf]; omega
        · obtain ⟨j, rfl⟩ : ∃ j, m = j + 1 := ⟨m - 1, by omega⟩
          rw [show ((j + 1 : Nat) : Int) - 1 = (j : Int) from by omega]
          have c1 := HR.out (16 * k + j) (by omega)
          have c2 := HR.out (16 * k + 8 + j) (by omega)
          have hj8 : (j : Int) < 8 := by omega
          go_wp2_with fail
          refine ⟨⟨j, by omega, rfl, ?_, ?_⟩, by simp [intOf]⟩
          · rw [show 8 - j = (7 - j) + 1 from by omega, leK, show 7 - (7 - j) = j from by omega, Nat.mul_comm 16 k]
          · rw [show 8 - j = (7 - j) + 1 from by omega, leK, show 7 - (7 - j) = j from by omega, Nat.mul_comm 16 k]
    · have HK : Hid (k = len / 16) := (by omega : k = len / 16)
      have hge : ¬ ((k : Int) < (len : Int) / 16) := by omega
      have hcutz : 16 * ((len / 16 : Nat) : Int) ≤ (len : Int) := by omega
      by_cases hc : 16 * (len / 16) < cap
      · have hcz : 16 * ((len / 16 : Nat) : Int) < (cap : Int) := by omega
        go_wp2_with fail
        go_loop [10, 11, 13, 14, 15, 81] (fun s10 s11 _ _ _ s81 => ∃ j : Nat, j ≤ len - 16 * (len / 16) ∧ s81 = .int .i64 j ∧ s10 = .int .u64 (U64 (t1 (fun i => d (len / 16 * 16 + i)) j)) ∧ s11 = .int .u64 (U64 (t2 (fun i => d (len / 16 * 16 + i)) j))) (fun _ _ _ _ _ s => len - 16 * (len / 16) - (intOf s).toNat)
        case atStart => exact ⟨0, Nat.zero_le _, rfl, rfl, rfl⟩
        case round =>
          obtain ⟨j, hj, rfl, rfl, rfl⟩ := hrel
          by_cases hjlt : j < len - 16 * (len / 16)
          · have hjz : (j : Int) < ((len - 16 * (len / 16) : Nat) : Int) := by omega
            have cj : w.cell? ⟨b, off + 16 * (len / 16) + j, none⟩ = some (.int .u8 (U8 (d (len / 16 * 16 + j)))) := by have := HR.out (len / 16 * 16 + j) (by omega); rw [show off + 16 * (len / 16) + j = off + (len / 16 * 16 + j) from by omega]; exact this
            by_cases hj8 : j < 8
            · have hj8z : (j : Int) < 8 := by omega
              go_wp2_with fail
              go_round
              case rel => exact ⟨j + 1, by omega, by go_num, by rw [t1_lo _ _ hj8], by rw [t2_lo _ _ hj8]⟩
              case measure => simp [intOf]; omega
            · have hj8z : ¬ ((j : Int) < 8) := by omega
              have hj16 : (j : Int) - 8 < 8 := by omega
              have hj0 : (0 : Int) ≤ (j : Int) - 8 := by omega
              go_wp2_with fail
              go_round
              case rel => exact ⟨j + 1, by omega, by go_num, by rw [t1_hi _ _ hj8], by rw [t2_hi _ _ hj8]⟩
              case measure => simp [intOf]; omega
          · have HJ : Hid (j = len - 16 * (len / 16)) := (by omega : j = len - 16 * (len / 16))
            have hjz : ¬ ((j : Int) < ((len - 16 * (len / 16) : Nat) : Int)) := by omega
            have hfin := mur_fin d len k j HK.out (by have := HJ.out; omega)
            have HF := Lib.hid hfin
            clear hfin
            by_cases h8 : 8 < len - 16 * (len / 16)
            · have h8z : (8 : Int) < ((len - 16 * (len / 16) : Nat) : Int) := by omega
              have h0z : (0 : Int) < ((len - 16 * (len / 16) : Nat) : Int) := by omega
              have hj8 : 8 < j := by have := HJ.out; omega
              have hj0 : 0 < j := by omega
              go_wp2_with (first
                | (go_at_call 9; refine (rotated_any _ _ (by decide) _).mono ?_; rintro e w' ⟨rfl, rfl⟩)
                | (go_at_call 10; refine (mixed_any _ _).mono ?_; rintro e w' ⟨rfl, rfl⟩))
              go_ret
              exact ⟨ret_int (by rw [HF.out, if_pos hj0, if_pos hj8, e1, e2, fin_eq']; first | rfl | (rw [s_i_u]) | (rw [s_uadd, s_ofU, s_i_u])), rfl⟩
            · have h8z : ¬ ((8 : Int) < ((len - 16 * (len / 16) : Nat) : Int)) := by omega
              have hj8 : ¬ 8 < j := by have := HJ.out; omega
              by_cases h0 : 0 < len - 16 * (len / 16)
              · have h0z : (0 : Int) < ((len - 16 * (len / 16) : Nat) : Int) := by omega
                have hj0 : 0 < j := by have := HJ.out; omega
                go_wp2_with (first
                  | (go_at_call 9; refine (rotated_any _ _ (by decide) _).mono ?_; rintro e w' ⟨rfl, rfl⟩)
                  | (go_at_call 10; refine (mixed_any _ _).mono ?_; rintro e w' ⟨rfl, rfl⟩))
                go_ret
                exact ⟨ret_int (by rw [HF.out, if_pos hj0, if_neg hj8, e1, fin_eq']; first | rfl | (rw [s_i_u]) | (rw [s_uadd, s_ofU, s_i_u])), rfl⟩
              · have h0z : ¬ ((0 : Int) < ((len - 16 * (len / 16) : Nat) : Int)) := by omega
                have hj0 : ¬ 0 < j := by have := HJ.out; omega
                go_wp2_with (first
                  | (go_at_call 9; refine (rotated_any _ _ (by decide) _).mono ?_; rintro e w' ⟨rfl, rfl⟩)
                  | (go_at_call 10; refine (mixed_any _ _).mono ?_; rintro e w' ⟨rfl, rfl⟩))
                go_ret
                exact ⟨ret_int (by rw [HF.out, if_neg hj0, if_neg hj8, fin_eq']; first | rfl | (rw [s_i_u]) | (rw [s_uadd, s_ofU, s_i_u])), rfl⟩
      · have hcl : len = cap := by omega
        subst hcl
        have he : (len : Int) ≤ 16 * ((len / 16 : Nat) : Int) := by omega
        go_wp2_with fail
        go_loop [10, 11, 13, 14, 15, 81] (fun s10 s11 _ _ _ s81 => ∃ j : Nat, j ≤ len - 16 * (len / 16) ∧ s81 = .int .i64 j ∧ s10 = .int .u64 (U64 (t1 (fun i => d (len / 16 * 16 + i)) j)) ∧ s11 = .int .u64 (U64 (t2 (fun i => d (len / 16 * 16 + i)) j))) (fun _ _ _ _ _ s => len - 16 * (len / 16) - (intOf s).toNat)
        case atStart => exact ⟨0, Nat.zero_le _, rfl, rfl, rfl⟩
        case round =>
          obtain ⟨j, hj, rfl, rfl, rfl⟩ := hrel
          have HJ : Hid (j = len - 16 * (len / 16)) := (by omega : j = len - 16 * (len / 16))
          have hjz : ¬ ((j : Int) < ((len - 16 * (len / 16) : Nat) : Int)) := by omega
          have hfin := mur_fin d len k j HK.out (by have := HJ.out; omega)
          have HF := Lib.hid hfin
          clear hfin
          have h8z : ¬ ((8 : Int) < ((len - 16 * (len / 16) : Nat) : Int)) := by omega
          have h0z : ¬ ((0 : Int) < ((len - 16 * (len / 16) : Nat) : Int)) := by omega
          have hj8 : ¬ 8 < j := by have := HJ.out; omega
          have hj0 : ¬ 0 < j := by have := HJ.out; omega
          go_wp2_with (first
            | (go_at_call 9; refine (rotated_any _ _ (by decide) _).mono ?_; rintro e w' ⟨rfl, rfl⟩)
            | (go_at_call 10; refine (mixed_any _ _).mono ?_; rintro e w' ⟨rfl, rfl⟩))
          go_ret
          exact ⟨ret_int (by rw [HF.out, if_neg hj0, if_neg hj8, fin_eq']; first | rfl | (rw [s_i_u]) | (rw [s_uadd, s_ofU, s_i_u])), rfl⟩
end Go.Proofs.YtcbpglkbeaebpaaGreat
