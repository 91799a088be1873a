/- The parts of the package's Murmur3 and of the reference's, as bit vectors. No condition. -/
import Derived.Test.YtcbpglkbeaebpaaGreatClone
import Derived.Test.YtcbpglkbeaebpaaGreatBv
namespace Go.Proofs.YtcbpglkbeaebpaaGreat
open Go.RowKit
attribute [local go_sem] s_u_i s_i_u s_ofI s_ofU s_ofU8 s_imul s_iadd s_umul s_uadd s_ixor s_ior s_uxor s_uor s_shr33 s_shr31 s_shr37 s_ixor0 s_uxor0 s_uor0 s_sx s_i_i s_u_u s_u_8

theorem rotl31 (x : BitVec 64) (w : World) : Calls Tryz.prog 13 #[.int .i64 (I64 x), .int .u8 31] w fun e w' => e = .returned (.int .i64 (I64 (rl31 x))) ∧ w = w' := by
  go_enter Tryz.func13, Tryz.ntmps13
  go_wp2
  go_ret
  exact ⟨rfl, rfl⟩

theorem rotl27 (x : BitVec 64) (w : World) : Calls Tryz.prog 13 #[.int .i64 (I64 x), .int .u8 27] w fun e w' => e = .returned (.int .i64 (I64 (rl27 x))) ∧ w = w' := by
  go_enter Tryz.func13, Tryz.ntmps13
  go_wp2
  go_ret
  exact ⟨rfl, rfl⟩

theorem rotl33 (x : BitVec 64) (w : World) : Calls Tryz.prog 13 #[.int .i64 (I64 x), .int .u8 33] w fun e w' => e = .returned (.int .i64 (I64 (rl33 x))) ∧ w = w' := by
  go_enter Tryz.func13, Tryz.ntmps13
  go_wp2
  go_ret
  exact ⟨rfl, rfl⟩

theorem fmix_any (x : BitVec 64) (w : World) : Calls Tryz.prog 15 #[.int .i64 (I64 x)] w fun e w' => e = .returned (.int .i64 (I64 (fm x))) ∧ w = w' := by
  go_enter Tryz.func15, Tryz.ntmps15
  go_wp2
  go_ret
  exact ⟨rfl, rfl⟩

theorem block_any (x : BitVec 8) (w : World) : Calls Tryz.prog 14 #[.int .u8 (U8 x)] w fun e w' => e = .returned (.int .i64 (I64 (sx8 x))) ∧ w = w' := by
  go_enter Tryz.func14, Tryz.ntmps14
  go_wp2
  go_ret
  exact ⟨ret_int (s_i_i _), rfl⟩

theorem rotated31 (x : BitVec 64) (w : World) : Calls Tryz.prog 9 #[.int .u64 (U64 x), .int .u64 31] w fun e w' => e = .returned (.int .u64 (U64 (rl31 x))) ∧ w = w' := by
  go_enter Tryz.func9, Tryz.ntmps9
  go_wp2
  go_ret
  exact ⟨rfl, rfl⟩

theorem rotated27 (x : BitVec 64) (w : World) : Calls Tryz.prog 9 #[.int .u64 (U64 x), .int .u64 27] w fun e w' => e = .returned (.int .u64 (U64 (rl27 x))) ∧ w = w' := by
  go_enter Tryz.func9, Tryz.ntmps9
  go_wp2
  go_ret
  exact ⟨rfl, rfl⟩

theorem rotated33 (x : BitVec 64) (w : World) : Calls Tryz.prog 9 #[.int .u64 (U64 x), .int .u64 33] w fun e w' => e = .returned (.int .u64 (U64 (rl33 x))) ∧ w = w' := by
  go_enter Tryz.func9, Tryz.ntmps9
  go_wp2
  go_ret
  exact ⟨rfl, rfl⟩

theorem mixed_any (x : BitVec 64) (w : World) : Calls Tryz.prog 10 #[.int .u64 (U64 x)] w fun e w' => e = .returned (.int .u64 (U64 (fm x))) ∧ w = w' := by
  go_enter Tryz.func10, Tryz.ntmps10
  go_wp2
  go_ret
  exact ⟨rfl, rfl⟩

theorem rotl_any (x : BitVec 64) (n : Int) (h : n = 31 ∨ n = 27 ∨ n = 33) (w : World) : Calls Tryz.prog 13 #[.int .i64 (I64 x), .int .u8 n] w fun e w' => e = .returned (.int .i64 (I64 (rlN n x))) ∧ w = w' := by
  rcases h with rfl | rfl | rfl
  · exact rotl31 x w
  · exact rotl27 x w
  · exact rotl33 x w

theorem rotated_any (x : BitVec 64) (n : Int) (h : n = 31 ∨ n = 27 ∨ n = 33) (w : World) : Calls Tryz.prog 9 #[.int .u64 (U64 x), .int .u64 n] w fun e w' => e = .returned (.int .u64 (U64 (rlN n x))) ∧ w = w' := by
  rcases h with rfl | rfl | rfl
  · exact rotated31 x w
  · exact rotated27 x w
  · exact rotated33 x w

end Go.Proofs.YtcbpglkbeaebpaaGreat
