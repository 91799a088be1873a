/- leUint64 and getBlock: eight bytes as a number. Condition: the bytes are there. -/
import Derived.Test.YtcbpglkbeaebpaaGreatHash
namespace Go.Proofs.YtcbpglkbeaebpaaGreat
open Go.RowKit
attribute [local go_sem] s_u_i s_i_u s_ofI s_ofU s_ofU8 s_imul s_iadd s_umul s_uadd s_ixor s_ior s_uxor s_uor s_shr33 s_shr31 s_shr37 s_ixor0 s_uxor0 s_uor0 s_sx s_i_i s_u_u s_u_8

set_option maxHeartbeats 400000 in
theorem leUint64_any (b off len cap : Nat) (d : Nat → BitVec 8) (w : World) (h8 : 8 ≤ len) (hm : len ≤ 9223372036854775807) (hr : RowAt w b off 8 (fun i => .int .u8 (U8 (d i)))) :
    Calls Tryz.prog 20 #[.slice (some ⟨b, off, none⟩) len cap] w fun e w' => e = .returned (.int .u64 (U64 (le8 d))) ∧ w = w' := by
  have c7 := hr 7 (by omega)
  have HR := Lib.hid hr
  clear hr
  go_enter Tryz.func20, Tryz.ntmps20
  go_wp2
  clear c7
  go_loop [3, 4] (fun v i => ∃ m : Nat, m ≤ 8 ∧ i = .int .i64 ((m : Int) - 1) ∧ v = .int .u64 (U64 (leK d (8 - m)))) (fun _ i => (intOf i + 1).toNat)
  case atStart => exact ⟨8, Nat.le_refl _, rfl, rfl⟩
  case round =>
    obtain ⟨m, hm8, rfl, rfl⟩ := hrel
    rcases Nat.eq_zero_or_pos m with h0 | h0
    · subst h0
      go_wp2
      go_ret
      exact ⟨rfl, rfl⟩
    · obtain ⟨j, rfl⟩ : ∃ j, m = j + 1 := ⟨m - 1, by omega⟩
      rw [show ((j + 1 : Nat) : Int) - 1 = (j : Int) from by omega]
      have cj := HR.out j (by omega)
      have hz : (0 : Int) ≤ (j : Int) := by omega
      have hlt : (j : Int) < (len : Int) := by omega
      go_wp2
      go_round
      case rel =>
        refine ⟨j, by omega, rfl, ?_⟩
        rw [show 8 - j = (7 - j) + 1 from by omega, leK, show 7 - (7 - j) = j from by omega]
      case measure => simp [intOf]

set_option maxHeartbeats 400000 in
theorem getBlock_any (b off len cap k : Nat) (d : Nat → BitVec 8) (w : World) (hk : k * 16 + 16 ≤ len) (hlc : len ≤ cap) (hm : cap ≤ 9223372036854775807) (hr : RowAt w b off len (fun i => .int .u8 (U8 (d i)))) :
    Calls Tryz.prog 12 #[.slice (some ⟨b, off, none⟩) len cap, .int .i64 k] w fun e w' =>
      e = .returned (.tuple #[.int .i64 (I64 (le8 fun i => d (k * 16 + i))), .int .i64 (I64 (le8 fun i => d (k * 16 + 8 + i)))]) ∧ w = w' := by
  have h1 := leUint64_any b (off + k * 16) (len - k * 16) (cap - k * 16) (fun i => d (k * 16 + i)) w (by omega) (by omega) (fun i hi => by rw [Nat.add_assoc]; exact hr _ (by omega))
  have h2 := leUint64_any b (off + (k * 16 + 8)) (len - (k * 16 + 8)) (cap - (k * 16 + 8)) (fun i => d (k * 16 + 8 + i)) w (by omega) (by omega) (fun i hi => by rw [Nat.add_assoc]; exact hr _ (by omega))
  have H1 := Lib.hid h1
  have H2 := Lib.hid h2
  clear h1 h2 hr
  have hz : (0 : Int) ≤ (k : Int) := by omega
  have hz2 : (k : Int) * 16 + 16 ≤ (len : Int) := by omega
  go_enter Tryz.func12, Tryz.ntmps12
  go_wp2_with fail
  refine H1.out.mono ?_
  rintro e w' ⟨rfl, rfl⟩
  go_wp2_with fail
  refine H2.out.mono ?_
  rintro e w' ⟨rfl, rfl⟩
  go_wp2_with fail
  go_ret2
  exact ⟨ret2_int (s_i_u _), rfl⟩
end Go.Proofs.YtcbpglkbeaebpaaGreat
