/- The two Murmur3 hashes of nil. No condition. -/
import Derived.Test.YtcbpglkbeaebpaaGreatBlock
import Derived.Test.YtcbpglkbeaebpaaGreatBw
namespace Go.Proofs.YtcbpglkbeaebpaaGreat
open Go.RowKit
attribute [local go_sem] s_u_i s_i_u s_ofI s_ofU s_ofU8 s_imul s_iadd s_umul s_uadd s_ixor s_ior s_uxor s_uor s_shr33 s_shr31 s_shr37 s_ixor0 s_uxor0 s_uor0 s_sx s_i_i s_u_u s_u_8 rlN_31 rlN_27 rlN_33 s_pow

theorem h1t_0 (d : Nat → BitVec 8) : h1t d 0 = 0#64 := rfl
theorem h2t_0 (d : Nat → BitVec 8) : h2t d 0 = 0#64 := rfl
theorem bits_00 : bits .and .i64 0 15 = 0 := by decide
theorem bits_x00 : bits .xor .i64 0 0 = I64 0#64 := by decide
theorem bits_ux00 : bits .xor .u64 0 0 = U64 0#64 := by decide

set_option maxRecDepth 100000 in
set_option maxHeartbeats 4000000 in
theorem murmur_nil (d : Nat → BitVec 8) (w : World) : Calls Tryz.prog 7 #[.slice none 0 0] w fun e w' => e = .returned (.int .i64 (I64 (mur d 0))) ∧ w = w' := by
  have h1 := bits_00
  have h2 := bits_x00
  go_enter Tryz.func7, Tryz.ntmps7
  go_wp2_with fail
  refine wp_loop_rounds 1 ?_
  rw [rounds_succ]
  go_wp2_with (go_at_call 15; refine (fmix_any _ _).mono ?_; rintro e w' ⟨rfl, rfl⟩)
  go_ret
  exact ⟨ret_int (by rw [mur, fin_eq', h1t_0, h2t_0, s_iadd, s_ofI]; rfl), rfl⟩

set_option maxRecDepth 100000 in
set_option maxHeartbeats 2000000 in
theorem spec_hash_nil (d : Nat → BitVec 8) (w : World) : Calls Tryz.prog 5 #[.slice none 0 0] w fun e w' => e = .returned (.int .i64 (I64 (mur d 0))) ∧ w = w' := by
  have h2 := bits_ux00
  go_enter Tryz.func5, Tryz.ntmps5
  go_wp2_with fail
  refine wp_loop_rounds 1 ?_
  rw [rounds_succ]
  go_wp2_with fail
  refine wp_loop_rounds 1 ?_
  rw [rounds_succ]
  go_wp2_with (go_at_call 10; refine (mixed_any _ _).mono ?_; rintro e w' ⟨rfl, rfl⟩)
  go_ret
  exact ⟨ret_int (by rw [mur, fin_eq', h1t_0, h2t_0]; first | rfl | (rw [s_i_u]; rfl)), rfl⟩
end Go.Proofs.YtcbpglkbeaebpaaGreat
