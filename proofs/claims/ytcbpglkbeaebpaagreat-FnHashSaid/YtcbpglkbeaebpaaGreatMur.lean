/- Murmur3H1 of the package: its hash of bytes is 'mur'. Condition: the bytes are there, at most 2^47. -/
import Derived.Test.YtcbpglkbeaebpaaGreatBlock
import Derived.Deep.CutBlock
import Derived.Deep.DeepCutAuto
namespace Go.Proofs.YtcbpglkbeaebpaaGreat
open Go.RowKit
attribute [local go_sem] s_u_i s_i_u s_ofI s_ofU s_ofU8 s_imul s_iadd s_umul s_uadd s_ixor s_ior s_uxor s_uor s_shr33 s_shr31 s_shr37 s_ixor0 s_uxor0 s_uor0 s_sx s_i_i s_u_u s_u_8 rlN_31 rlN_27 rlN_33

theorem h1t_at (d : Nat → BitVec 8) (n k r : Nat) (hk : k = n / 16) (hr : n % 16 = r) : h1t d n = if 0 < r then e1 (hN d k).1 (t1 (fun i => d (n / 16 * 16 + i)) r) else (hN d k).1 := by subst hk hr; rfl
theorem h2t_at (d : Nat → BitVec 8) (n k r : Nat) (hk : k = n / 16) (hr : n % 16 = r) : h2t d n = if 8 < r then e2 (hN d k).2 (t2 (fun i => d (n / 16 * 16 + i)) r) else (hN d k).2 := by subst hk hr; rfl
theorem v_i64 {a b : BitVec 64} (h : a = b) : Value.int .i64 (I64 a) = .int .i64 (I64 b) := by rw [h]
theorem t1_1 (d : Nat → BitVec 8) (m : Nat) : t1 (fun i => d (m + i)) 1 = sx8 (d m) := by
  simp [t1]
theorem t1_2 (d : Nat → BitVec 8) (m : Nat) : t1 (fun i => d (m + i)) 2 = sx8 (d (m + 1)) * 256#64 ^^^ sx8 (d m) := by
  simp [t1]
  ac_rfl
theorem t1_3 (d : Nat → BitVec 8) (m : Nat) : t1 (fun i => d (m + i)) 3 = sx8 (d (m + 2)) * 65536#64 ^^^ sx8 (d (m + 1)) * 256#64 ^^^ sx8 (d m) := by
  simp [t1]
  ac_rfl
theorem t1_4 (d : Nat → BitVec 8) (m : Nat) : t1 (fun i => d (m + i)) 4 = sx8 (d (m + 3)) * 16777216#64 ^^^ sx8 (d (m + 2)) * 65536#64 ^^^ sx8 (d (m + 1)) * 256#64 ^^^ sx8 (d m) := by
  simp [t1]
  ac_rfl
theorem t1_5 (d : Nat → BitVec 8) (m : Nat) : t1 (fun i => d (m + i)) 5 = sx8 (d (m + 4)) * 4294967296#64 ^^^ sx8 (d (m + 3)) * 16777216#64 ^^^ sx8 (d (m + 2)) * 65536#64 ^^^ sx8 (d (m + 1)) * 256#64 ^^^ sx8 (d m) := by
  simp [t1]
  ac_rfl
theorem t1_6 (d : Nat → BitVec 8) (m : Nat) : t1 (fun i => d (m + i)) 6 = sx8 (d (m + 5)) * 1099511627776#64 ^^^ sx8 (d (m + 4)) * 4294967296#64 ^^^ sx8 (d (m + 3)) * 16777216#64 ^^^ sx8 (d (m + 2)) * 65536#64 ^^^ sx8 (d (m + 1)) * 256#64 ^^^ sx8 (d m) := by
  simp [t1]
  ac_rfl
theorem t1_7 (d : Nat → BitVec 8) (m : Nat) : t1 (fun i => d (m + i)) 7 = sx8 (d (m + 6)) * 281474976710656#64 ^^^ sx8 (d (m + 5)) * 1099511627776#64 ^^^ sx8 (d (m + 4)) * 4294967296#64 ^^^ sx8 (d (m + 3)) * 16777216#64 ^^^ sx8 (d (m + 2)) * 65536#64 ^^^ sx8 (d (m + 1)) * 256#64 ^^^ sx8 (d m) := by
  simp [t1]
  ac_rfl
theorem t1_8 (d : Nat → BitVec 8) (m : Nat) : t1 (fun i => d (m + i)) 8 = sx8 (d (m + 7)) * 72057594037927936#64 ^^^ sx8 (d (m + 6)) * 281474976710656#64 ^^^ sx8 (d (m + 5)) * 1099511627776#64 ^^^ sx8 (d (m + 4)) * 4294967296#64 ^^^ sx8 (d (m + 3)) * 16777216#64 ^^^ sx8 (d (m + 2)) * 65536#64 ^^^ sx8 (d (m + 1)) * 256#64 ^^^ sx8 (d m) := by
  simp [t1]
  ac_rfl
theorem t1_9 (d : Nat → BitVec 8) (m : Nat) : t1 (fun i => d (m + i)) 9 = sx8 (d (m + 7)) * 72057594037927936#64 ^^^ sx8 (d (m + 6)) * 281474976710656#64 ^^^ sx8 (d (m + 5)) * 1099511627776#64 ^^^ sx8 (d (m + 4)) * 4294967296#64 ^^^ sx8 (d (m + 3)) * 16777216#64 ^^^ sx8 (d (m + 2)) * 65536#64 ^^^ sx8 (d (m + 1)) * 256#64 ^^^ sx8 (d m) := by
  simp [t1]
  ac_rfl
theorem t1_10 (d : Nat → BitVec 8) (m : Nat) : t1 (fun i => d (m + i)) 10 = sx8 (d (m + 7)) * 72057594037927936#64 ^^^ sx8 (d (m + 6)) * 281474976710656#64 ^^^ sx8 (d (m + 5)) * 1099511627776#64 ^^^ sx8 (d (m + 4)) * 4294967296#64 ^^^ sx8 (d (m + 3)) * 16777216#64 ^^^ sx8 (d (m + 2)) * 65536#64 ^^^ sx8 (d (m + 1)) * 256#64 ^^^ sx8 (d m) := by
  simp [t1]
  ac_rfl
theorem t1_11 (d : Nat → BitVec 8) (m : Nat) : t1 (fun i => d (m + i)) 11 = sx8 (d (m + 7)) * 72057594037927936#64 ^^^ sx8 (d (m + 6)) * 281474976710656#64 ^^^ sx8 (d (m + 5)) * 1099511627776#64 ^^^ sx8 (d (m + 4)) * 4294967296#64 ^^^ sx8 (d (m + 3)) * 16777216#64 ^^^ sx8 (d (m + 2)) * 65536#64 ^^^ sx8 (d (m + 1)) * 256#64 ^^^ sx8 (d m) := by
  simp [t1]
  ac_rfl
theorem t1_12 (d : Nat → BitVec 8) (m : Nat) : t1 (fun i => d (m + i)) 12 = sx8 (d (m + 7)) * 72057594037927936#64 ^^^ sx8 (d (m + 6)) * 281474976710656#64 ^^^ sx8 (d (m + 5)) * 1099511627776#64 ^^^ sx8 (d (m + 4)) * 4294967296#64 ^^^ sx8 (d (m + 3)) * 16777216#64 ^^^ sx8 (d (m + 2)) * 65536#64 ^^^ sx8 (d (m + 1)) * 256#64 ^^^ sx8 (d m) := by
  simp [t1]
  ac_rfl
theorem t1_13 (d : Nat → BitVec 8) (m : Nat) : t1 (fun i => d (m + i)) 13 = sx8 (d (m + 7)) * 72057594037927936#64 ^^^ sx8 (d (m + 6)) * 281474976710656#64 ^^^ sx8 (d (m + 5)) * 1099511627776#64 ^^^ sx8 (d (m + 4)) * 4294967296#64 ^^^ sx8 (d (m + 3)) * 16777216#64 ^^^ sx8 (d (m + 2)) * 65536#64 ^^^ sx8 (d (m + 1)) * 256#64 ^^^ sx8 (d m) := by
  simp [t1]
  ac_rfl
theorem t1_14 (d : Nat → BitVec 8) (m : Nat) : t1 (fun i => d (m + i)) 14 = sx8 (d (m + 7)) * 72057594037927936#64 ^^^ sx8 (d (m + 6)) * 281474976710656#64 ^^^ sx8 (d (m + 5)) * 1099511627776#64 ^^^ sx8 (d (m + 4)) * 4294967296#64 ^^^ sx8 (d (m + 3)) * 16777216#64 ^^^ sx8 (d (m + 2)) * 65536#64 ^^^ sx8 (d (m + 1)) * 256#64 ^^^ sx8 (d m) := by
  simp [t1]
  ac_rfl
theorem t1_15 (d : Nat → BitVec 8) (m : Nat) : t1 (fun i => d (m + i)) 15 = sx8 (d (m + 7)) * 72057594037927936#64 ^^^ sx8 (d (m + 6)) * 281474976710656#64 ^^^ sx8 (d (m + 5)) * 1099511627776#64 ^^^ sx8 (d (m + 4)) * 4294967296#64 ^^^ sx8 (d (m + 3)) * 16777216#64 ^^^ sx8 (d (m + 2)) * 65536#64 ^^^ sx8 (d (m + 1)) * 256#64 ^^^ sx8 (d m) := by
  simp [t1]
  ac_rfl
theorem t2_9 (d : Nat → BitVec 8) (m : Nat) : t2 (fun i => d (m + i)) 9 = sx8 (d (m + 8)) := by
  simp [t2]
theorem t2_10 (d : Nat → BitVec 8) (m : Nat) : t2 (fun i => d (m + i)) 10 = sx8 (d (m + 9)) * 256#64 ^^^ sx8 (d (m + 8)) := by
  simp [t2]
  ac_rfl
theorem t2_11 (d : Nat → BitVec 8) (m : Nat) : t2 (fun i => d (m + i)) 11 = sx8 (d (m + 10)) * 65536#64 ^^^ sx8 (d (m + 9)) * 256#64 ^^^ sx8 (d (m + 8)) := by
  simp [t2]
  ac_rfl
theorem t2_12 (d : Nat → BitVec 8) (m : Nat) : t2 (fun i => d (m + i)) 12 = sx8 (d (m + 11)) * 16777216#64 ^^^ sx8 (d (m + 10)) * 65536#64 ^^^ sx8 (d (m + 9)) * 256#64 ^^^ sx8 (d (m + 8)) := by
  simp [t2]
  ac_rfl
theorem t2_13 (d : Nat → BitVec 8) (m : Nat) : t2 (fun i => d (m + i)) 13 = sx8 (d (m + 12)) * 4294967296#64 ^^^ sx8 (d (m + 11)) * 16777216#64 ^^^ sx8 (d (m + 10)) * 65536#64 ^^^ sx8 (d (m + 9)) * 256#64 ^^^ sx8 (d (m + 8)) := by
  simp [t2]
  ac_rfl
theorem t2_14 (d : Nat → BitVec 8) (m : Nat) : t2 (fun i => d (m + i)) 14 = sx8 (d (m + 13)) * 1099511627776#64 ^^^ sx8 (d (m + 12)) * 4294967296#64 ^^^ sx8 (d (m + 11)) * 16777216#64 ^^^ sx8 (d (m + 10)) * 65536#64 ^^^ sx8 (d (m + 9)) * 256#64 ^^^ sx8 (d (m + 8)) := by
  simp [t2]
  ac_rfl
theorem t2_15 (d : Nat → BitVec 8) (m : Nat) : t2 (fun i => d (m + i)) 15 = sx8 (d (m + 14)) * 281474976710656#64 ^^^ sx8 (d (m + 13)) * 1099511627776#64 ^^^ sx8 (d (m + 12)) * 4294967296#64 ^^^ sx8 (d (m + 11)) * 16777216#64 ^^^ sx8 (d (m + 10)) * 65536#64 ^^^ sx8 (d (m + 9)) * 256#64 ^^^ sx8 (d (m + 8)) := by
  simp [t2]
  ac_rfl
def ExitIn (k : Nat) (K : Act → World → Prop) (e : Exit) (a : Act) (w : World) : Prop := e = .exit k ∧ K a w

set_option maxRecDepth 100000 in
set_option maxHeartbeats 8000000 in
theorem murmur_any (b off len cap : Nat) (d : Nat → BitVec 8) (w : World) (hlc : len ≤ cap) (hl : len ≤ 140737488355328) (hm : cap ≤ 9223372036854775807) (hr : RowAt w b off len (fun i => .int .u8 (U8 (d i)))) :
    Calls Tryz.prog 7 #[.slice (some ⟨b, off, none⟩) len cap] w fun e w' => e = .returned (.int .i64 (I64 (mur d len))) ∧ w = w' := by
  have HR := Lib.hid hr
  clear hr
  go_enter Tryz.func7, Tryz.ntmps7
  go_wp2_with fail
  go_loop [4, 5, 6, 7, 9] (fun h1 h2 _ _ i => ∃ k : Nat, k ≤ len / 16 ∧ i = .int .i64 k ∧ h1 = .int .i64 (I64 (hN d k).1) ∧ h2 = .int .i64 (I64 (hN d k).2)) (fun _ _ _ _ i => len / 16 - (intOf i).toNat)
  case atStart => exact ⟨0, Nat.zero_le _, rfl, rfl, rfl⟩
  case round =>
    obtain ⟨k, hk, rfl, rfl, rfl⟩ := hrel
    by_cases hlt : k < len / 16
    · have hb := getBlock_any b off len cap k d w (by omega) hlc hm HR.out
      have HB := Lib.hid hb
      clear hb
      go_wp2_with (first
        | (go_at_call 12; refine HB.out.mono ?_; rintro e w' ⟨rfl, rfl⟩)
        | (go_at_call 13; refine (rotl_any _ _ (by decide) _).mono ?_; rintro e w' ⟨rfl, rfl⟩))
      go_round
      case rel => exact ⟨k + 1, by omega, by go_num, by rw [hN_1], by rw [hN_2, s_iadd]; rfl⟩
      case measure => simp [intOf]; omega
    · have HK : Hid (k = len / 16) := (by omega : k = len / 16)
      have hge : ¬ ((k : Int) < (len : Int) / 16) := by omega
      have hcut : len / 16 * 16 ≤ len := by omega
      have hcutz : ((len / 16 : Nat) : Int) * 16 ≤ (len : Int) := by omega
      have hand := bits_and15 len (by omega)
      by_cases hc : len / 16 * 16 < cap
      · have hcz : ((len / 16 : Nat) : Int) * 16 < (cap : Int) := by omega
        go_upto_block 2 with (fail)
        go_cut [4, 5, 6, 7] (fun s4 s5 _ _ wx => s4 = .int .i64 (I64 (h1t d len)) ∧ s5 = .int .i64 (I64 (h2t d len)) ∧ w = wx)
        case first =>
          obtain ⟨r, hr⟩ : ∃ r, len % 16 = r := ⟨_, rfl⟩
          rw [hr] at hand
          have Hr := Lib.hid hr
          have hrl : r < 16 := by omega
          clear hr
          refine wp_block ?_
          refine wp_seq_k (fun K17 hK17 => ?_)
          have H17 := Lib.hid hK17
          clear hK17
          refine wp_block ?_
          refine wp_seq_k (fun K16 hK16 => ?_)
          have H16 := Lib.hid hK16
          clear hK16
          refine wp_block ?_
          refine wp_seq_k (fun K15 hK15 => ?_)
          have H15 := Lib.hid hK15
          clear hK15
          refine wp_block ?_
          refine wp_seq_k (fun K14 hK14 => ?_)
          have H14 := Lib.hid hK14
          clear hK14
          refine wp_block ?_
          refine wp_seq_k (fun K13 hK13 => ?_)
          have H13 := Lib.hid hK13
          clear hK13
          refine wp_block ?_
          refine wp_seq_k (fun K12 hK12 => ?_)
          have H12 := Lib.hid hK12
          clear hK12
          refine wp_block ?_
          refine wp_seq_k (fun K11 hK11 => ?_)
          have H11 := Lib.hid hK11
          clear hK11
          refine wp_block ?_
          refine wp_seq_k (fun K10 hK10 => ?_)
          have H10 := Lib.hid hK10
          clear hK10
          refine wp_block ?_
          refine wp_seq_k (fun K9 hK9 => ?_)
          have H9 := Lib.hid hK9
          clear hK9
          refine wp_block ?_
          refine wp_seq_k (fun K8 hK8 => ?_)
          have H8 := Lib.hid hK8
          clear hK8
          refine wp_block ?_
          refine wp_seq_k (fun K7 hK7 => ?_)
          have H7 := Lib.hid hK7
          clear hK7
          refine wp_block ?_
          refine wp_seq_k (fun K6 hK6 => ?_)
          have H6 := Lib.hid hK6
          clear hK6
          refine wp_block ?_
          refine wp_seq_k (fun K5 hK5 => ?_)
          have H5 := Lib.hid hK5
          clear hK5
          refine wp_block ?_
          refine wp_seq_k (fun K4 hK4 => ?_)
          have H4 := Lib.hid hK4
          clear hK4
          refine wp_block ?_
          refine wp_seq_k (fun K3 hK3 => ?_)
          have H3 := Lib.hid hK3
          clear hK3
          refine wp_block ?_
          match r, hrl with
          | 0, _ =>
            as_aux_lemma =>
              have q15 : ((len : Int) % 16 == 15) = false := by have := Hr.out; simp; omega
              have q14 : ((len : Int) % 16 == 14) = false := by have := Hr.out; simp; omega
              have q13 : ((len : Int) % 16 == 13) = false := by have := Hr.out; simp; omega
              have q12 : ((len : Int) % 16 == 12) = false := by have := Hr.out; simp; omega
              have q11 : ((len : Int) % 16 == 11) = false := by have := Hr.out; simp; omega
              have q10 : ((len : Int) % 16 == 10) = false := by have := Hr.out; simp; omega
              have q9 : ((len : Int) % 16 == 9) = false := by have := Hr.out; simp; omega
              have q8 : ((len : Int) % 16 == 8) = false := by have := Hr.out; simp; omega
              have q7 : ((len : Int) % 16 == 7) = false := by have := Hr.out; simp; omega
              have q6 : ((len : Int) % 16 == 6) = false := by have := Hr.out; simp; omega
              have q5 : ((len : Int) % 16 == 5) = false := by have := Hr.out; simp; omega
              have q4 : ((len : Int) % 16 == 4) = false := by have := Hr.out; simp; omega
              have q3 : ((len : Int) % 16 == 3) = false := by have := Hr.out; simp; omega
              have q2 : ((len : Int) % 16 == 2) = false := by have := Hr.out; simp; omega
              have q1 : ((len : Int) % 16 == 1) = false := by have := Hr.out; simp; omega
              refine wp_seq_k (fun KX hKX => ?_)
              have HX := Lib.hid hKX
              clear hKX
              refine wp_seq_k (fun KT hKT => ?_)
              have HT := Lib.hid hKT
              clear hKT
              go_wp2_with fail
              refine HT.out _ _ ?_
              clear HT
              refine wp_seq_k (fun KT hKT => ?_)
              have HT := Lib.hid hKT
              clear hKT
              go_wp2_with fail
              refine HT.out _ _ ?_
              clear HT
              refine wp_seq_k (fun KT hKT => ?_)
              have HT := Lib.hid hKT
              clear hKT
              go_wp2_with fail
              refine HT.out _ _ ?_
              clear HT
              refine wp_seq_k (fun KT hKT => ?_)
              have HT := Lib.hid hKT
              clear hKT
              go_wp2_with fail
              refine HT.out _ _ ?_
              clear HT
              refine wp_seq_k (fun KT hKT => ?_)
              have HT := Lib.hid hKT
              clear hKT
              go_wp2_with fail
              refine HT.out _ _ ?_
              clear HT
              refine wp_seq_k (fun KT hKT => ?_)
              have HT := Lib.hid hKT
              clear hKT
              go_wp2_with fail
              refine HT.out _ _ ?_
              clear HT
              refine wp_seq_k (fun KT hKT => ?_)
              have HT := Lib.hid hKT
              clear hKT
              go_wp2_with fail
              refine HT.out _ _ ?_
              clear HT
              refine wp_seq_k (fun KT hKT => ?_)
              have HT := Lib.hid hKT
              clear hKT
              go_wp2_with fail
              refine HT.out _ _ ?_
              clear HT
              refine wp_seq_k (fun KT hKT => ?_)
              have HT := Lib.hid hKT
              clear hKT
              go_wp2_with fail
              refine HT.out _ _ ?_
              clear HT
              refine wp_seq_k (fun KT hKT => ?_)
              have HT := Lib.hid hKT
              clear hKT
              go_wp2_with fail
              refine HT.out _ _ ?_
              clear HT
              refine wp_seq_k (fun KT hKT => ?_)
              have HT := Lib.hid hKT
              clear hKT
              go_wp2_with fail
              refine HT.out _ _ ?_
              clear HT
              refine wp_seq_k (fun KT hKT => ?_)
              have HT := Lib.hid hKT
              clear hKT
              go_wp2_with fail
              refine HT.out _ _ ?_
              clear HT
              refine wp_seq_k (fun KT hKT => ?_)
              have HT := Lib.hid hKT
              clear hKT
              go_wp2_with fail
              refine HT.out _ _ ?_
              clear HT
              refine wp_seq_k (fun KT hKT => ?_)
              have HT := Lib.hid hKT
              clear hKT
              go_wp2_with fail
              refine HT.out _ _ ?_
              clear HT
              go_wp2_with fail
              refine HX.out _ _ ?_
              refine wp_exit ?_
              show Met _ _ _
              unfold Met
              go_wp2_with fail
              go_meet
              case rel => exact ⟨v_i64 (by rw [h1t_at d len k 0 HK.out Hr.out, if_neg (by decide)]), v_i64 (by rw [h2t_at d len k 0 HK.out Hr.out, if_neg (by decide)]), rfl⟩
          | 1, _ =>
            as_aux_lemma =>
              have c0 : w.cell? ⟨b, off + len / 16 * 16, none⟩ = some (.int .u8 (U8 (d (len / 16 * 16 + 0)))) := by have := HR.out (len / 16 * 16 + 0) (by have := Hr.out; omega); simpa [Nat.add_assoc] using this
              have z0 : ((len / 16 : Nat) : Int) * 16 + 0 < (len : Int) := by have := Hr.out; omega
              have q15 : ((len : Int) % 16 == 15) = false := by have := Hr.out; simp; omega
              have q14 : ((len : Int) % 16 == 14) = false := by have := Hr.out; simp; omega
              have q13 : ((len : Int) % 16 == 13) = false := by have := Hr.out; simp; omega
              have q12 : ((len : Int) % 16 == 12) = false := by have := Hr.out; simp; omega
              have q11 : ((len : Int) % 16 == 11) = false := by have := Hr.out; simp; omega
              have q10 : ((len : Int) % 16 == 10) = false := by have := Hr.out; simp; omega
              have q9 : ((len : Int) % 16 == 9) = false := by have := Hr.out; simp; omega
              have q8 : ((len : Int) % 16 == 8) = false := by have := Hr.out; simp; omega
              have q7 : ((len : Int) % 16 == 7) = false := by have := Hr.out; simp; omega
              have q6 : ((len : Int) % 16 == 6) = false := by have := Hr.out; simp; omega
              have q5 : ((len : Int) % 16 == 5) = false := by have := Hr.out; simp; omega
              have q4 : ((len : Int) % 16 == 4) = false := by have := Hr.out; simp; omega
              have q3 : ((len : Int) % 16 == 3) = false := by have := Hr.out; simp; omega
              have q2 : ((len : Int) % 16 == 2) = false := by have := Hr.out; simp; omega
              have q1 : ((len : Int) % 16 == 1) = true := by have := Hr.out; simp; omega
              refine wp_seq_k (fun KX hKX => ?_)
              have HX := Lib.hid hKX
              clear hKX
              refine wp_seq_k (fun KT hKT => ?_)
              have HT := Lib.hid hKT
              clear hKT
              go_wp2_with fail
              refine HT.out _ _ ?_
              clear HT
              refine wp_seq_k (fun KT hKT => ?_)
              have HT := Lib.hid hKT
              clear hKT
              go_wp2_with fail
              refine HT.out _ _ ?_
              clear HT
              refine wp_seq_k (fun KT hKT => ?_)
              have HT := Lib.hid hKT
              clear hKT
              go_wp2_with fail
              refine HT.out _ _ ?_
              clear HT
              refine wp_seq_k (fun KT hKT => ?_)
              have HT := Lib.hid hKT
              clear hKT
              go_wp2_with fail
              refine HT.out _ _ ?_
              clear HT
              refine wp_seq_k (fun KT hKT => ?_)
              have HT := Lib.hid hKT
              clear hKT
              go_wp2_with fail
              refine HT.out _ _ ?_
              clear HT
              refine wp_seq_k (fun KT hKT => ?_)
              have HT := Lib.hid hKT
              clear hKT
              go_wp2_with fail
              refine HT.out _ _ ?_
              clear HT
              refine wp_seq_k (fun KT hKT => ?_)
              have HT := Lib.hid hKT
              clear hKT
              go_wp2_with fail
              refine HT.out _ _ ?_
              clear HT
              refine wp_seq_k (fun KT hKT => ?_)
              have HT := Lib.hid hKT
              clear hKT
              go_wp2_with fail
              refine HT.out _ _ ?_
              clear HT
              refine wp_seq_k (fun KT hKT => ?_)
              have HT := Lib.hid hKT
              clear hKT
              go_wp2_with fail
              refine HT.out _ _ ?_
              clear HT
              refine wp_seq_k (fun KT hKT => ?_)
              have HT := Lib.hid hKT
              clear hKT
              go_wp2_with fail
              refine HT.out _ _ ?_
              clear HT
              refine wp_seq_k (fun KT hKT => ?_)
              have HT := Lib.hid hKT
              clear hKT
              go_wp2_with fail
              refine HT.out _ _ ?_
              clear HT
              refine wp_seq_k (fun KT hKT => ?_)
              have HT := Lib.hid hKT
              clear hKT
              go_wp2_with fail
              refine HT.out _ _ ?_
              clear HT
              refine wp_seq_k (fun KT hKT => ?_)
              have HT := Lib.hid hKT
              clear hKT
              go_wp2_with fail
              refine HT.out _ _ ?_
              clear HT
              refine wp_seq_k (fun KT hKT => ?_)
              have HT := Lib.hid hKT
              clear hKT
              go_wp2_with fail
              refine HT.out _ _ ?_
              clear HT
              refine wp_mono (Q := ExitIn 17 K17) ?_ (fun _ _ _ h => by obtain ⟨rfl, h⟩ := h; exact h)
              go_wp2_with fail
              refine ⟨rfl, ?_⟩
              refine H17.out _ _ ?_
              go_wp2_with (first
                | (go_at_call 14; refine (block_any _ _).mono ?_; rintro e w' ⟨rfl, rfl⟩)
                | (go_at_call 13; refine (rotl_any _ _ (by decide) _).mono ?_; rintro e w' ⟨rfl, rfl⟩))
              go_meet
              case rel => exact ⟨v_i64 (by rw [h1t_at d len k 1 HK.out Hr.out, if_pos (by decide), t1_1, e1]), v_i64 (by rw [h2t_at d len k 1 HK.out Hr.out, if_neg (by decide)]), rfl⟩
          | 2, _ =>
            as_aux_lemma =>
              have c0 : w.cell? ⟨b, off + len / 16 * 16, none⟩ = some (.int .u8 (U8 (d (len / 16 * 16 + 0)))) := by have := HR.out (len / 16 * 16 + 0) (by have := Hr.out; omega); simpa [Nat.add_assoc] using this
              have z0 : ((len / 16 : Nat) : Int) * 16 + 0 < (len : Int) := by have := Hr.out; omega
              have c1 : w.cell? ⟨b, off + len / 16 * 16 + 1, none⟩ = some (.int .u8 (U8 (d (len / 16 * 16 + 1)))) := by have := HR.out (len / 16 * 16 + 1) (by have := Hr.out; omega); simpa [Nat.add_assoc] using this
              have z1 : ((len / 16 : Nat) : Int) * 16 + 1 < (len : Int) := by have := Hr.out; omega
              have q15 : ((len : Int) % 16 == 15) = false := by have := Hr.out; simp; omega
              have q14 : ((len : Int) % 16 == 14) = false := by have := Hr.out; simp; omega
              have q13 : ((len : Int) % 16 == 13) = false := by have := Hr.out; simp; omega
              have q12 : ((len : Int) % 16 == 12) = false := by have := Hr.out; simp; omega
              have q11 : ((len : Int) % 16 == 11) = false := by have := Hr.out; simp; omega
              have q10 : ((len : Int) % 16 == 10) = false := by have := Hr.out; simp; omega
              have q9 : ((len : Int) % 16 == 9) = false := by have := Hr.out; simp; omega
              have q8 : ((len : Int) % 16 == 8) = false := by have := Hr.out; simp; omega
              have q7 : ((len : Int) % 16 == 7) = false := by have := Hr.out; simp; omega
              have q6 : ((len : Int) % 16 == 6) = false := by have := Hr.out; simp; omega
              have q5 : ((len : Int) % 16 == 5) = false := by have := Hr.out; simp; omega
              have q4 : ((len : Int) % 16 == 4) = false := by have := Hr.out; simp; omega
              have q3 : ((len : Int) % 16 == 3) = false := by have := Hr.out; simp; omega
              have q2 : ((len : Int) % 16 == 2) = true := by have := Hr.out; simp; omega
              refine wp_seq_k (fun KX hKX => ?_)
              have HX := Lib.hid hKX
              clear hKX
              refine wp_seq_k (fun KT hKT => ?_)
              have HT := Lib.hid hKT
              clear hKT
              go_wp2_with fail
              refine HT.out _ _ ?_
              clear HT
              refine wp_seq_k (fun KT hKT => ?_)
              have HT := Lib.hid hKT
              clear hKT
              go_wp2_with fail
              refine HT.out _ _ ?_
              clear HT
              refine wp_seq_k (fun KT hKT => ?_)
              have HT := Lib.hid hKT
              clear hKT
              go_wp2_with fail
              refine HT.out _ _ ?_
              clear HT
              refine wp_seq_k (fun KT hKT => ?_)
              have HT := Lib.hid hKT
              clear hKT
              go_wp2_with fail
              refine HT.out _ _ ?_
              clear HT
              refine wp_seq_k (fun KT hKT => ?_)
              have HT := Lib.hid hKT
              clear hKT
              go_wp2_with fail
              refine HT.out _ _ ?_
              clear HT
              refine wp_seq_k (fun KT hKT => ?_)
              have HT := Lib.hid hKT
              clear hKT
              go_wp2_with fail
              refine HT.out _ _ ?_
              clear HT
              refine wp_seq_k (fun KT hKT => ?_)
              have HT := Lib.hid hKT
              clear hKT
              go_wp2_with fail
              refine HT.out _ _ ?_
              clear HT
              refine wp_seq_k (fun KT hKT => ?_)
              have HT := Lib.hid hKT
              clear hKT
              go_wp2_with fail
              refine HT.out _ _ ?_
              clear HT
              refine wp_seq_k (fun KT hKT => ?_)
              have HT := Lib.hid hKT
              clear hKT
              go_wp2_with fail
              refine HT.out _ _ ?_
              clear HT
              refine wp_seq_k (fun KT hKT => ?_)
              have HT := Lib.hid hKT
              clear hKT
              go_wp2_with fail
              refine HT.out _ _ ?_
              clear HT
              refine wp_seq_k (fun KT hKT => ?_)
              have HT := Lib.hid hKT
              clear hKT
              go_wp2_with fail
              refine HT.out _ _ ?_
              clear HT
              refine wp_seq_k (fun KT hKT => ?_)
              have HT := Lib.hid hKT
              clear hKT
              go_wp2_with fail
              refine HT.out _ _ ?_
              clear HT
              refine wp_seq_k (fun KT hKT => ?_)
              have HT := Lib.hid hKT
              clear hKT
              go_wp2_with fail
              refine HT.out _ _ ?_
              clear HT
              refine wp_seq_k (fun KT hKT => ?_)
              have HT := Lib.hid hKT
              clear hKT
              refine wp_mono (Q := ExitIn 16 K16) ?_ (fun _ _ _ h => by obtain ⟨rfl, h⟩ := h; exact h)
              go_wp2_with fail
              refine ⟨rfl, ?_⟩
              refine H16.out _ _ ?_
              go_wp2_with (first
                | (go_at_call 14; refine (block_any _ _).mono ?_; rintro e w' ⟨rfl, rfl⟩)
                | (go_at_call 13; refine (rotl_any _ _ (by decide) _).mono ?_; rintro e w' ⟨rfl, rfl⟩))
              refine H17.out _ _ ?_
              go_wp2_with (first
                | (go_at_call 14; refine (block_any _ _).mono ?_; rintro e w' ⟨rfl, rfl⟩)
                | (go_at_call 13; refine (rotl_any _ _ (by decide) _).mono ?_; rintro e w' ⟨rfl, rfl⟩))
              go_meet
              case rel => exact ⟨v_i64 (by rw [h1t_at d len k 2 HK.out Hr.out, if_pos (by decide), t1_2, e1]), v_i64 (by rw [h2t_at d len k 2 HK.out Hr.out, if_neg (by decide)]), rfl⟩
          | 3, _ =>
            as_aux_lemma =>
              have c0 : w.cell? ⟨b, off + len / 16 * 16, none⟩ = some (.int .u8 (U8 (d (len / 16 * 16 + 0)))) := by have := HR.out (len / 16 * 16 + 0) (by have := Hr.out; omega); simpa [Nat.add_assoc] using this
              have z0 : ((len / 16 : Nat) : Int) * 16 + 0 < (len : Int) := by have := Hr.out; omega
              have c1 : w.cell? ⟨b, off + len / 16 * 16 + 1, none⟩ = some (.int .u8 (U8 (d (len / 16 * 16 + 1)))) := by have := HR.out (len / 16 * 16 + 1) (by have := Hr.out; omega); simpa [Nat.add_assoc] using this
              have z1 : ((len / 16 : Nat) : Int) * 16 + 1 < (len : Int) := by have := Hr.out; omega
              have c2 : w.cell? ⟨b, off + len / 16 * 16 + 2, none⟩ = some (.int .u8 (U8 (d (len / 16 * 16 + 2)))) := by have := HR.out (len / 16 * 16 + 2) (by have := Hr.out; omega); simpa [Nat.add_assoc] using this
              have z2 : ((len / 16 : Nat) : Int) * 16 + 2 < (len : Int) := by have := Hr.out; omega
              have q15 : ((len : Int) % 16 == 15) = false := by have := Hr.out; simp; omega
              have q14 : ((len : Int) % 16 == 14) = false := by have := Hr.out; simp; omega
              have q13 : ((len : Int) % 16 == 13) = false := by have := Hr.out; simp; omega
              have q12 : ((len : Int) % 16 == 12) = false := by have := Hr.out; simp; omega
              have q11 : ((len : Int) % 16 == 11) = false := by have := Hr.out; simp; omega
              have q10 : ((len : Int) % 16 == 10) = false := by have := Hr.out; simp; omega
              have q9 : ((len : Int) % 16 == 9) = false := by have := Hr.out; simp; omega
              have q8 : ((len : Int) % 16 == 8) = false := by have := Hr.out; simp; omega
              have q7 : ((len : Int) % 16 == 7) = false := by have := Hr.out; simp; omega
              have q6 : ((len : Int) % 16 == 6) = false := by have := Hr.out; simp; omega
              have q5 : ((len : Int) % 16 == 5) = false := by have := Hr.out; simp; omega
              have q4 : ((len : Int) % 16 == 4) = false := by have := Hr.out; simp; omega
              have q3 : ((len : Int) % 16 == 3) = true := by have := Hr.out; simp; omega
              refine wp_seq_k (fun KX hKX => ?_)
              have HX := Lib.hid hKX
              clear hKX
              refine wp_seq_k (fun KT hKT => ?_)
              have HT := Lib.hid hKT
              clear hKT
              go_wp2_with fail
              refine HT.out _ _ ?_
              clear HT
              refine wp_seq_k (fun KT hKT => ?_)
              have HT := Lib.hid hKT
              clear hKT
              go_wp2_with fail
              refine HT.out _ _ ?_
              clear HT
              refine wp_seq_k (fun KT hKT => ?_)
              have HT := Lib.hid hKT
              clear hKT
              go_wp2_with fail
              refine HT.out _ _ ?_
              clear HT
              refine wp_seq_k (fun KT hKT => ?_)
              have HT := Lib.hid hKT
              clear hKT
              go_wp2_with fail
              refine HT.out _ _ ?_
              clear HT
              refine wp_seq_k (fun KT hKT => ?_)
              have HT := Lib.hid hKT
              clear hKT
              go_wp2_with fail
              refine HT.out _ _ ?_
              clear HT
              refine wp_seq_k (fun KT hKT => ?_)
              have HT := Lib.hid hKT
              clear hKT
              go_wp2_with fail
              refine HT.out _ _ ?_
              clear HT
              refine wp_seq_k (fun KT hKT => ?_)
              have HT := Lib.hid hKT
              clear hKT
              go_wp2_with fail
              refine HT.out _ _ ?_
              clear HT
              refine wp_seq_k (fun KT hKT => ?_)
              have HT := Lib.hid hKT
              clear hKT
              go_wp2_with fail
              refine HT.out _ _ ?_
              clear HT
              refine wp_seq_k (fun KT hKT => ?_)
              have HT := Lib.hid hKT
              clear hKT
              go_wp2_with fail
              refine HT.out _ _ ?_
              clear HT
              refine wp_seq_k (fun KT hKT => ?_)
              have HT := Lib.hid hKT
              clear hKT
              go_wp2_with fail
              refine HT.out _ _ ?_
              clear HT
              refine wp_seq_k (fun KT hKT => ?_)
              have HT := Lib.hid hKT
              clear hKT
              go_wp2_with fail
              refine HT.out _ _ ?_
              clear HT
              refine wp_seq_k (fun KT hKT => ?_)
              have HT := Lib.hid hKT
              clear hKT
              go_wp2_with fail
              refine HT.out _ _ ?_
              clear HT
              refine wp_seq_k (fun KT hKT => ?_)
              have HT := Lib.hid hKT
              clear hKT
              refine wp_mono (Q := ExitIn 15 K15) ?_ (fun _ _ _ h => by obtain ⟨rfl, h⟩ := h; exact h)
              go_wp2_with fail
              refine ⟨rfl, ?_⟩
              refine H15.out _ _ ?_
              go_wp2_with (first
                | (go_at_call 14; refine (block_any _ _).mono ?_; rintro e w' ⟨rfl, rfl⟩)
                | (go_at_call 13; refine (rotl_any _ _ (by decide) _).mono ?_; rintro e w' ⟨rfl, rfl⟩))
              refine H16.out _ _ ?_
              go_wp2_with (first
                | (go_at_call 14; refine (block_any _ _).mono ?_; rintro e w' ⟨rfl, rfl⟩)
                | (go_at_call 13; refine (rotl_any _ _ (by decide) _).mono ?_; rintro e w' ⟨rfl, rfl⟩))
              refine H17.out _ _ ?_
              go_wp2_with (first
                | (go_at_call 14; refine (block_any _ _).mono ?_; rintro e w' ⟨rfl, rfl⟩)
                | (go_at_call 13; refine (rotl_any _ _ (by decide) _).mono ?_; rintro e w' ⟨rfl, rfl⟩))
              go_meet
              case rel => exact ⟨v_i64 (by rw [h1t_at d len k 3 HK.out Hr.out, if_pos (by decide), t1_3, e1]), v_i64 (by rw [h2t_at d len k 3 HK.out Hr.out, if_neg (by decide)]), rfl⟩
          | 4, _ =>
            as_aux_lemma =>
              have c0 : w.cell? ⟨b, off + len / 16 * 16, none⟩ = some (.int .u8 (U8 (d (len / 16 * 16 + 0)))) := by have := HR.out (len / 16 * 16 + 0) (by have := Hr.out; omega); simpa [Nat.add_assoc] using this
              have z0 : ((len / 16 : Nat) : Int) * 16 + 0 < (len : Int) := by have := Hr.out; omega
              have c1 : w.cell? ⟨b, off + len / 16 * 16 + 1, none⟩ = some (.int .u8 (U8 (d (len / 16 * 16 + 1)))) := by have := HR.out (len / 16 * 16 + 1) (by have := Hr.out; omega); simpa [Nat.add_assoc] using this
              have z1 : ((len / 16 : Nat) : Int) * 16 + 1 < (len : Int) := by have := Hr.out; omega
              have c2 : w.cell? ⟨b, off + len / 16 * 16 + 2, none⟩ = some (.int .u8 (U8 (d (len / 16 * 16 + 2)))) := by have := HR.out (len / 16 * 16 + 2) (by have := Hr.out; omega); simpa [Nat.add_assoc] using this
              have z2 : ((len / 16 : Nat) : Int) * 16 + 2 < (len : Int) := by have := Hr.out; omega
              have c3 : w.cell? ⟨b, off + len / 16 * 16 + 3, none⟩ = some (.int .u8 (U8 (d (len / 16 * 16 + 3)))) := by have := HR.out (len / 16 * 16 + 3) (by have := Hr.out; omega); simpa [Nat.add_assoc] using this
              have z3 : ((len / 16 : Nat) : Int) * 16 + 3 < (len : Int) := by have := Hr.out; omega
              have q15 : ((len : Int) % 16 == 15) = false := by have := Hr.out; simp; omega
              have q14 : ((len : Int) % 16 == 14) = false := by have := Hr.out; simp; omega
              have q13 : ((len : Int) % 16 == 13) = false := by have := Hr.out; simp; omega
              have q12 : ((len : Int) % 16 == 12) = false := by have := Hr.out; simp; omega
              have q11 : ((len : Int) % 16 == 11) = false := by have := Hr.out; simp; omega
              have q10 : ((len : Int) % 16 == 10) = false := by have := Hr.out; simp; omega
              have q9 : ((len : Int) % 16 == 9) = false := by have := Hr.out; simp; omega
              have q8 : ((len : Int) % 16 == 8) = false := by have := Hr.out; simp; omega
              have q7 : ((len : Int) % 16 == 7) = false := by have := Hr.out; simp; omega
              have q6 : ((len : Int) % 16 == 6) = false := by have := Hr.out; simp; omega
              have q5 : ((len : Int) % 16 == 5) = false := by have := Hr.out; simp; omega
              have q4 : ((len : Int) % 16 == 4) = true := by have := Hr.out; simp; omega
              refine wp_seq_k (fun KX hKX => ?_)
              have HX := Lib.hid hKX
              clear hKX
              refine wp_seq_k (fun KT hKT => ?_)
              have HT := Lib.hid hKT
              clear hKT
              go_wp2_with fail
              refine HT.out _ _ ?_
              clear HT
              refine wp_seq_k (fun KT hKT => ?_)
              have HT := Lib.hid hKT
              clear hKT
              go_wp2_with fail
              refine HT.out _ _ ?_
              clear HT
              refine wp_seq_k (fun KT hKT => ?_)
              have HT := Lib.hid hKT
              clear hKT
              go_wp2_with fail
              refine HT.out _ _ ?_
              clear HT
              refine wp_seq_k (fun KT hKT => ?_)
              have HT := Lib.hid hKT
              clear hKT
              go_wp2_with fail
              refine HT.out _ _ ?_
              clear HT
              refine wp_seq_k (fun KT hKT => ?_)
              have HT := Lib.hid hKT
              clear hKT
              go_wp2_with fail
              refine HT.out _ _ ?_
              clear HT
              refine wp_seq_k (fun KT hKT => ?_)
              have HT := Lib.hid hKT
              clear hKT
              go_wp2_with fail
              refine HT.out _ _ ?_
              clear HT
              refine wp_seq_k (fun KT hKT => ?_)
              have HT := Lib.hid hKT
              clear hKT
              go_wp2_with fail
              refine HT.out _ _ ?_
              clear HT
              refine wp_seq_k (fun KT hKT => ?_)
              have HT := Lib.hid hKT
              clear hKT
              go_wp2_with fail
              refine HT.out _ _ ?_
              clear HT
              refine wp_seq_k (fun KT hKT => ?_)
              have HT := Lib.hid hKT
              clear hKT
              go_wp2_with fail
              refine HT.out _ _ ?_
              clear HT
              refine wp_seq_k (fun KT hKT => ?_)
              have HT := Lib.hid hKT
              clear hKT
              go_wp2_with fail
              refine HT.out _ _ ?_
              clear HT
              refine wp_seq_k (fun KT hKT => ?_)
              have HT := Lib.hid hKT
              clear hKT
              go_wp2_with fail
              refine HT.out _ _ ?_
              clear HT
              refine wp_seq_k (fun KT hKT => ?_)
              have HT := Lib.hid hKT
              clear hKT
              refine wp_mono (Q := ExitIn 14 K14) ?_ (fun _ _ _ h => by obtain ⟨rfl, h⟩ := h; exact h)
              go_wp2_with fail
              refine ⟨rfl, ?_⟩
              refine H14.out _ _ ?_
              go_wp2_with (first
                | (go_at_call 14; refine (block_any _ _).mono ?_; rintro e w' ⟨rfl, rfl⟩)
                | (go_at_call 13; refine (rotl_any _ _ (by decide) _).mono ?_; rintro e w' ⟨rfl, rfl⟩))
              refine H15.out _ _ ?_
              go_wp2_with (first
                | (go_at_call 14; refine (block_any _ _).mono ?_; rintro e w' ⟨rfl, rfl⟩)
                | (go_at_call 13; refine (rotl_any _ _ (by decide) _).mono ?_; rintro e w' ⟨rfl, rfl⟩))
              refine H16.out _ _ ?_
              go_wp2_with (first
                | (go_at_call 14; refine (block_any _ _).mono ?_; rintro e w' ⟨rfl, rfl⟩)
                | (go_at_call 13; refine (rotl_any _ _ (by decide) _).mono ?_; rintro e w' ⟨rfl, rfl⟩))
              refine H17.out _ _ ?_
              go_wp2_with (first
                | (go_at_call 14; refine (block_any _ _).mono ?_; rintro e w' ⟨rfl, rfl⟩)
                | (go_at_call 13; refine (rotl_any _ _ (by decide) _).mono ?_; rintro e w' ⟨rfl, rfl⟩))
              go_meet
              case rel => exact ⟨v_i64 (by rw [h1t_at d len k 4 HK.out Hr.out, if_pos (by decide), t1_4, e1]), v_i64 (by rw [h2t_at d len k 4 HK.out Hr.out, if_neg (by decide)]), rfl⟩
          | 5, _ =>
            as_aux_lemma =>
              have c0 : w.cell? ⟨b, off + len / 16 * 16, none⟩ = some (.int .u8 (U8 (d (len / 16 * 16 + 0)))) := by have := HR.out (len / 16 * 16 + 0) (by have := Hr.out; omega); simpa [Nat.add_assoc] using this
              have z0 : ((len / 16 : Nat) : Int) * 16 + 0 < (len : Int) := by have := Hr.out; omega
              have c1 : w.cell? ⟨b, off + len / 16 * 16 + 1, none⟩ = some (.int .u8 (U8 (d (len / 16 * 16 + 1)))) := by have := HR.out (len / 16 * 16 + 1) (by have := Hr.out; omega); simpa [Nat.add_assoc] using this
              have z1 : ((len / 16 : Nat) : Int) * 16 + 1 < (len : Int) := by have := Hr.out; omega
              have c2 : w.cell? ⟨b, off + len / 16 * 16 + 2, none⟩ = some (.int .u8 (U8 (d (len / 16 * 16 + 2)))) := by have := HR.out (len / 16 * 16 + 2) (by have := Hr.out; omega); simpa [Nat.add_assoc] using this
              have z2 : ((len / 16 : Nat) : Int) * 16 + 2 < (len : Int) := by have := Hr.out; omega
              have c3 : w.cell? ⟨b, off + len / 16 * 16 + 3, none⟩ = some (.int .u8 (U8 (d (len / 16 * 16 + 3)))) := by have := HR.out (len / 16 * 16 + 3) (by have := Hr.out; omega); simpa [Nat.add_assoc] using this
              have z3 : ((len / 16 : Nat) : Int) * 16 + 3 < (len : Int) := by have := Hr.out; omega
              have c4 : w.cell? ⟨b, off + len / 16 * 16 + 4, none⟩ = some (.int .u8 (U8 (d (len / 16 * 16 + 4)))) := by have := HR.out (len / 16 * 16 + 4) (by have := Hr.out; omega); simpa [Nat.add_assoc] using this
              have z4 : ((len / 16 : Nat) : Int) * 16 + 4 < (len : Int) := by have := Hr.out; omega
              have q15 : ((len : Int) % 16 == 15) = false := by have := Hr.out; simp; omega
              have q14 : ((len : Int) % 16 == 14) = false := by have := Hr.out; simp; omega
              have q13 : ((len : Int) % 16 == 13) = false := by have := Hr.out; simp; omega
              have q12 : ((len : Int) % 16 == 12) = false := by have := Hr.out; simp; omega
              have q11 : ((len : Int) % 16 == 11) = false := by have := Hr.out; simp; omega
              have q10 : ((len : Int) % 16 == 10) = false := by have := Hr.out; simp; omega
              have q9 : ((len : Int) % 16 == 9) = false := by have := Hr.out; simp; omega
              have q8 : ((len : Int) % 16 == 8) = false := by have := Hr.out; simp; omega
              have q7 : ((len : Int) % 16 == 7) = false := by have := Hr.out; simp; omega
              have q6 : ((len : Int) % 16 == 6) = false := by have := Hr.out; simp; omega
              have q5 : ((len : Int) % 16 == 5) = true := by have := Hr.out; simp; omega
              refine wp_seq_k (fun KX hKX => ?_)
              have HX := Lib.hid hKX
              clear hKX
              refine wp_seq_k (fun KT hKT => ?_)
              have HT := Lib.hid hKT
              clear hKT
              go_wp2_with fail
              refine HT.out _ _ ?_
              clear HT
              refine wp_seq_k (fun KT hKT => ?_)
              have HT := Lib.hid hKT
              clear hKT
              go_wp2_with fail
              refine HT.out _ _ ?_
              clear HT
              refine wp_seq_k (fun KT hKT => ?_)
              have HT := Lib.hid hKT
              clear hKT
              go_wp2_with fail
              refine HT.out _ _ ?_
              clear HT
              refine wp_seq_k (fun KT hKT => ?_)
              have HT := Lib.hid hKT
              clear hKT
              go_wp2_with fail
              refine HT.out _ _ ?_
              clear HT
              refine wp_seq_k (fun KT hKT => ?_)
              have HT := Lib.hid hKT
              clear hKT
              go_wp2_with fail
              refine HT.out _ _ ?_
              clear HT
              refine wp_seq_k (fun KT hKT => ?_)
              have HT := Lib.hid hKT
              clear hKT
              go_wp2_with fail
              refine HT.out _ _ ?_
              clear HT
              refine wp_seq_k (fun KT hKT => ?_)
              have HT := Lib.hid hKT
              clear hKT
              go_wp2_with fail
              refine HT.out _ _ ?_
              clear HT
              refine wp_seq_k (fun KT hKT => ?_)
              have HT := Lib.hid hKT
              clear hKT
              go_wp2_with fail
              refine HT.out _ _ ?_
              clear HT
              refine wp_seq_k (fun KT hKT => ?_)
              have HT := Lib.hid hKT
              clear hKT
              go_wp2_with fail
              refine HT.out _ _ ?_
              clear HT
              refine wp_seq_k (fun KT hKT => ?_)
              have HT := Lib.hid hKT
              clear hKT
              go_wp2_with fail
              refine HT.out _ _ ?_
              clear HT
              refine wp_seq_k (fun KT hKT => ?_)
              have HT := Lib.hid hKT
              clear hKT
              refine wp_mono (Q := ExitIn 13 K13) ?_ (fun _ _ _ h => by obtain ⟨rfl, h⟩ := h; exact h)
              go_wp2_with fail
              refine ⟨rfl, ?_⟩
              refine H13.out _ _ ?_
              go_wp2_with (first
                | (go_at_call 14; refine (block_any _ _).mono ?_; rintro e w' ⟨rfl, rfl⟩)
                | (go_at_call 13; refine (rotl_any _ _ (by decide) _).mono ?_; rintro e w' ⟨rfl, rfl⟩))
              refine H14.out _ _ ?_
              go_wp2_with (first
                | (go_at_call 14; refine (block_any _ _).mono ?_; rintro e w' ⟨rfl, rfl⟩)
                | (go_at_call 13; refine (rotl_any _ _ (by decide) _).mono ?_; rintro e w' ⟨rfl, rfl⟩))
              refine H15.out _ _ ?_
              go_wp2_with (first
                | (go_at_call 14; refine (block_any _ _).mono ?_; rintro e w' ⟨rfl, rfl⟩)
                | (go_at_call 13; refine (rotl_any _ _ (by decide) _).mono ?_; rintro e w' ⟨rfl, rfl⟩))
              refine H16.out _ _ ?_
              go_wp2_with (first
                | (go_at_call 14; refine (block_any _ _).mono ?_; rintro e w' ⟨rfl, rfl⟩)
                | (go_at_call 13; refine (rotl_any _ _ (by decide) _).mono ?_; rintro e w' ⟨rfl, rfl⟩))
              refine H17.out _ _ ?_
              go_wp2_with (first
                | (go_at_call 14; refine (block_any _ _).mono ?_; rintro e w' ⟨rfl, rfl⟩)
                | (go_at_call 13; refine (rotl_any _ _ (by decide) _).mono ?_; rintro e w' ⟨rfl, rfl⟩))
              go_meet
              case rel => exact ⟨v_i64 (by rw [h1t_at d len k 5 HK.out Hr.out, if_pos (by decide), t1_5, e1]), v_i64 (by rw [h2t_at d len k 5 HK.out Hr.out, if_neg (by decide)]), rfl⟩
          | 6, _ =>
            as_aux_lemma =>
              have c0 : w.cell? ⟨b, off + len / 16 * 16, none⟩ = some (.int .u8 (U8 (d (len / 16 * 16 + 0)))) := by have := HR.out (len / 16 * 16 + 0) (by have := Hr.out; omega); simpa [Nat.add_assoc] using this
              have z0 : ((len / 16 : Nat) : Int) * 16 + 0 < (len : Int) := by have := Hr.out; omega
              have c1 : w.cell? ⟨b, off + len / 16 * 16 + 1, none⟩ = some (.int .u8 (U8 (d (len / 16 * 16 + 1)))) := by have := HR.out (len / 16 * 16 + 1) (by have := Hr.out; omega); simpa [Nat.add_assoc] using this
              have z1 : ((len / 16 : Nat) : Int) * 16 + 1 < (len : Int) := by have := Hr.out; omega
              have c2 : w.cell? ⟨b, off + len / 16 * 16 + 2, none⟩ = some (.int .u8 (U8 (d (len / 16 * 16 + 2)))) := by have := HR.out (len / 16 * 16 + 2) (by have := Hr.out; omega); simpa [Nat.add_assoc] using this
              have z2 : ((len / 16 : Nat) : Int) * 16 + 2 < (len : Int) := by have := Hr.out; omega
              have c3 : w.cell? ⟨b, off + len / 16 * 16 + 3, none⟩ = some (.int .u8 (U8 (d (len / 16 * 16 + 3)))) := by have := HR.out (len / 16 * 16 + 3) (by have := Hr.out; omega); simpa [Nat.add_assoc] using this
              have z3 : ((len / 16 : Nat) : Int) * 16 + 3 < (len : Int) := by have := Hr.out; omega
              have c4 : w.cell? ⟨b, off + len / 16 * 16 + 4, none⟩ = some (.int .u8 (U8 (d (len / 16 * 16 + 4)))) := by have := HR.out (len / 16 * 16 + 4) (by have := Hr.out; omega); simpa [Nat.add_assoc] using this
              have z4 : ((len / 16 : Nat) : Int) * 16 + 4 < (len : Int) := by have := Hr.out; omega
              have c5 : w.cell? ⟨b, off + len / 16 * 16 + 5, none⟩ = some (.int .u8 (U8 (d (len / 16 * 16 + 5)))) := by have := HR.out (len / 16 * 16 + 5) (by have := Hr.out; omega); simpa [Nat.add_assoc] using this
              have z5 : ((len / 16 : Nat) : Int) * 16 + 5 < (len : Int) := by have := Hr.out; omega
              have q15 : ((len : Int) % 16 == 15) = false := by have := Hr.out; simp; omega
              have q14 : ((len : Int) % 16 == 14) = false := by have := Hr.out; simp; omega
              have q13 : ((len : Int) % 16 == 13) = false := by have := Hr.out; simp; omega
              have q12 : ((len : Int) % 16 == 12) = false := by have := Hr.out; simp; omega
              have q11 : ((len : Int) % 16 == 11) = false := by have := Hr.out; simp; omega
              have q10 : ((len : Int) % 16 == 10) = false := by have := Hr.out; simp; omega
              have q9 : ((len : Int) % 16 == 9) = false := by have := Hr.out; simp; omega
              have q8 : ((len : Int) % 16 == 8) = false := by have := Hr.out; simp; omega
              have q7 : ((len : Int) % 16 == 7) = false := by have := Hr.out; simp; omega
              have q6 : ((len : Int) % 16 == 6) = true := by have := Hr.out; simp; omega
              refine wp_seq_k (fun KX hKX => ?_)
              have HX := Lib.hid hKX
              clear hKX
              refine wp_seq_k (fun KT hKT => ?_)
              have HT := Lib.hid hKT
              clear hKT
              go_wp2_with fail
              refine HT.out _ _ ?_
              clear HT
              refine wp_seq_k (fun KT hKT => ?_)
              have HT := Lib.hid hKT
              clear hKT
              go_wp2_with fail
              refine HT.out _ _ ?_
              clear HT
              refine wp_seq_k (fun KT hKT => ?_)
              have HT := Lib.hid hKT
              clear hKT
              go_wp2_with fail
              refine HT.out _ _ ?_
              clear HT
              refine wp_seq_k (fun KT hKT => ?_)
              have HT := Lib.hid hKT
              clear hKT
              go_wp2_with fail
              refine HT.out _ _ ?_
              clear HT
              refine wp_seq_k (fun KT hKT => ?_)
              have HT := Lib.hid hKT
              clear hKT
              go_wp2_with fail
              refine HT.out _ _ ?_
              clear HT
              refine wp_seq_k (fun KT hKT => ?_)
              have HT := Lib.hid hKT
              clear hKT
              go_wp2_with fail
              refine HT.out _ _ ?_
              clear HT
              refine wp_seq_k (fun KT hKT => ?_)
              have HT := Lib.hid hKT
              clear hKT
              go_wp2_with fail
              refine HT.out _ _ ?_
              clear HT
              refine wp_seq_k (fun KT hKT => ?_)
              have HT := Lib.hid hKT
              clear hKT
              go_wp2_with fail
              refine HT.out _ _ ?_
              clear HT
              refine wp_seq_k (fun KT hKT => ?_)
              have HT := Lib.hid hKT
              clear hKT
              go_wp2_with fail
              refine HT.out _ _ ?_
              clear HT
              refine wp_seq_k (fun KT hKT => ?_)
              have HT := Lib.hid hKT
              clear hKT
              refine wp_mono (Q := ExitIn 12 K12) ?_ (fun _ _ _ h => by obtain ⟨rfl, h⟩ := h; exact h)
              go_wp2_with fail
              refine ⟨rfl, ?_⟩
              refine H12.out _ _ ?_
              go_wp2_with (first
                | (go_at_call 14; refine (block_any _ _).mono ?_; rintro e w' ⟨rfl, rfl⟩)
                | (go_at_call 13; refine (rotl_any _ _ (by decide) _).mono ?_; rintro e w' ⟨rfl, rfl⟩))
              refine H13.out _ _ ?_
              go_wp2_with (first
                | (go_at_call 14; refine (block_any _ _).mono ?_; rintro e w' ⟨rfl, rfl⟩)
                | (go_at_call 13; refine (rotl_any _ _ (by decide) _).mono ?_; rintro e w' ⟨rfl, rfl⟩))
              refine H14.out _ _ ?_
              go_wp2_with (first
                | (go_at_call 14; refine (block_any _ _).mono ?_; rintro e w' ⟨rfl, rfl⟩)
                | (go_at_call 13; refine (rotl_any _ _ (by decide) _).mono ?_; rintro e w' ⟨rfl, rfl⟩))
              refine H15.out _ _ ?_
              go_wp2_with (first
                | (go_at_call 14; refine (block_any _ _).mono ?_; rintro e w' ⟨rfl, rfl⟩)
                | (go_at_call 13; refine (rotl_any _ _ (by decide) _).mono ?_; rintro e w' ⟨rfl, rfl⟩))
              refine H16.out _ _ ?_
              go_wp2_with (first
                | (go_at_call 14; refine (block_any _ _).mono ?_; rintro e w' ⟨rfl, rfl⟩)
                | (go_at_call 13; refine (rotl_any _ _ (by decide) _).mono ?_; rintro e w' ⟨rfl, rfl⟩))
              refine H17.out _ _ ?_
              go_wp2_with (first
                | (go_at_call 14; refine (block_any _ _).mono ?_; rintro e w' ⟨rfl, rfl⟩)
                | (go_at_call 13; refine (rotl_any _ _ (by decide) _).mono ?_; rintro e w' ⟨rfl, rfl⟩))
              go_meet
              case rel => exact ⟨v_i64 (by rw [h1t_at d len k 6 HK.out Hr.out, if_pos (by decide), t1_6, e1]), v_i64 (by rw [h2t_at d len k 6 HK.out Hr.out, if_neg (by decide)]), rfl⟩
          | 7, _ =>
            as_aux_lemma =>
              have c0 : w.cell? ⟨b, off + len / 16 * 16, none⟩ = some (.int .u8 (U8 (d (len / 16 * 16 + 0)))) := by have := HR.out (len / 16 * 16 + 0) (by have := Hr.out; omega); simpa [Nat.add_assoc] using this
              have z0 : ((len / 16 : Nat) : Int) * 16 + 0 < (len : Int) := by have := Hr.out; omega
              have c1 : w.cell? ⟨b, off + len / 16 * 16 + 1, none⟩ = some (.int .u8 (U8 (d (len / 16 * 16 + 1)))) := by have := HR.out (len / 16 * 16 + 1) (by have := Hr.out; omega); simpa [Nat.add_assoc] using this
              have z1 : ((len / 16 : Nat) : Int) * 16 + 1 < (len : Int) := by have := Hr.out; omega
              have c2 : w.cell? ⟨b, off + len / 16 * 16 + 2, none⟩ = some (.int .u8 (U8 (d (len / 16 * 16 + 2)))) := by have := HR.out (len / 16 * 16 + 2) (by have := Hr.out; omega); simpa [Nat.add_assoc] using this
              have z2 : ((len / 16 : Nat) : Int) * 16 + 2 < (len : Int) := by have := Hr.out; omega
              have c3 : w.cell? ⟨b, off + len / 16 * 16 + 3, none⟩ = some (.int .u8 (U8 (d (len / 16 * 16 + 3)))) := by have := HR.out (len / 16 * 16 + 3) (by have := Hr.out; omega); simpa [Nat.add_assoc] using this
              have z3 : ((len / 16 : Nat) : Int) * 16 + 3 < (len : Int) := by have := Hr.out; omega
              have c4 : w.cell? ⟨b, off + len / 16 * 16 + 4, none⟩ = some (.int .u8 (U8 (d (len / 16 * 16 + 4)))) := by have := HR.out (len / 16 * 16 + 4) (by have := Hr.out; omega); simpa [Nat.add_assoc] using this
              have z4 : ((len / 16 : Nat) : Int) * 16 + 4 < (len : Int) := by have := Hr.out; omega
              have c5 : w.cell? ⟨b, off + len / 16 * 16 + 5, none⟩ = some (.int .u8 (U8 (d (len / 16 * 16 + 5)))) := by have := HR.out (len / 16 * 16 + 5) (by have := Hr.out; omega); simpa [Nat.add_assoc] using this
              have z5 : ((len / 16 : Nat) : Int) * 16 + 5 < (len : Int) := by have := Hr.out; omega
              have c6 : w.cell? ⟨b, off + len / 16 * 16 + 6, none⟩ = some (.int .u8 (U8 (d (len / 16 * 16 + 6)))) := by have := HR.out (len / 16 * 16 + 6) (by have := Hr.out; omega); simpa [Nat.add_assoc] using this
              have z6 : ((len / 16 : Nat) : Int) * 16 + 6 < (len : Int) := by have := Hr.out; omega
              have q15 : ((len : Int) % 16 == 15) = false := by have := Hr.out; simp; omega
              have q14 : ((len : Int) % 16 == 14) = false := by have := Hr.out; simp; omega
              have q13 : ((len : Int) % 16 == 13) = false := by have := Hr.out; simp; omega
              have q12 : ((len : Int) % 16 == 12) = false := by have := Hr.out; simp; omega
              have q11 : ((len : Int) % 16 == 11) = false := by have := Hr.out; simp; omega
              have q10 : ((len : Int) % 16 == 10) = false := by have := Hr.out; simp; omega
              have q9 : ((len : Int) % 16 == 9) = false := by have := Hr.out; simp; omega
              have q8 : ((len : Int) % 16 == 8) = false := by have := Hr.out; simp; omega
              have q7 : ((len : Int) % 16 == 7) = true := by have := Hr.out; simp; omega
              refine wp_seq_k (fun KX hKX => ?_)
              have HX := Lib.hid hKX
              clear hKX
              refine wp_seq_k (fun KT hKT => ?_)
              have HT := Lib.hid hKT
              clear hKT
              go_wp2_with fail
              refine HT.out _ _ ?_
              clear HT
              refine wp_seq_k (fun KT hKT => ?_)
              have HT := Lib.hid hKT
              clear hKT
              go_wp2_with fail
              refine HT.out _ _ ?_
              clear HT
              refine wp_seq_k (fun KT hKT => ?_)
              have HT := Lib.hid hKT
              clear hKT
              go_wp2_with fail
              refine HT.out _ _ ?_
              clear HT
              refine wp_seq_k (fun KT hKT => ?_)
              have HT := Lib.hid hKT
              clear hKT
              go_wp2_with fail
              refine HT.out _ _ ?_
              clear HT
              refine wp_seq_k (fun KT hKT => ?_)
              have HT := Lib.hid hKT
              clear hKT
              go_wp2_with fail
              refine HT.out _ _ ?_
              clear HT
              refine wp_seq_k (fun KT hKT => ?_)
              have HT := Lib.hid hKT
              clear hKT
              go_wp2_with fail
              refine HT.out _ _ ?_
              clear HT
              refine wp_seq_k (fun KT hKT => ?_)
              have HT := Lib.hid hKT
              clear hKT
              go_wp2_with fail
              refine HT.out _ _ ?_
              clear HT
              refine wp_seq_k (fun KT hKT => ?_)
              have HT := Lib.hid hKT
              clear hKT
              go_wp2_with fail
              refine HT.out _ _ ?_
              clear HT
              refine wp_seq_k (fun KT hKT => ?_)
              have HT := Lib.hid hKT
              clear hKT
              refine wp_mono (Q := ExitIn 11 K11) ?_ (fun _ _ _ h => by obtain ⟨rfl, h⟩ := h; exact h)
              go_wp2_with fail
              refine ⟨rfl, ?_⟩
              refine H11.out _ _ ?_
              go_wp2_with (first
                | (go_at_call 14; refine (block_any _ _).mono ?_; rintro e w' ⟨rfl, rfl⟩)
                | (go_at_call 13; refine (rotl_any _ _ (by decide) _).mono ?_; rintro e w' ⟨rfl, rfl⟩))
              refine H12.out _ _ ?_
              go_wp2_with (first
                | (go_at_call 14; refine (block_any _ _).mono ?_; rintro e w' ⟨rfl, rfl⟩)
                | (go_at_call 13; refine (rotl_any _ _ (by decide) _).mono ?_; rintro e w' ⟨rfl, rfl⟩))
              refine H13.out _ _ ?_
              go_wp2_with (first
                | (go_at_call 14; refine (block_any _ _).mono ?_; rintro e w' ⟨rfl, rfl⟩)
                | (go_at_call 13; refine (rotl_any _ _ (by decide) _).mono ?_; rintro e w' ⟨rfl, rfl⟩))
              refine H14.out _ _ ?_
              go_wp2_with (first
                | (go_at_call 14; refine (block_any _ _).mono ?_; rintro e w' ⟨rfl, rfl⟩)
                | (go_at_call 13; refine (rotl_any _ _ (by decide) _).mono ?_; rintro e w' ⟨rfl, rfl⟩))
              refine H15.out _ _ ?_
              go_wp2_with (first
                | (go_at_call 14; refine (block_any _ _).mono ?_; rintro e w' ⟨rfl, rfl⟩)
                | (go_at_call 13; refine (rotl_any _ _ (by decide) _).mono ?_; rintro e w' ⟨rfl, rfl⟩))
              refine H16.out _ _ ?_
              go_wp2_with (first
                | (go_at_call 14; refine (block_any _ _).mono ?_; rintro e w' ⟨rfl, rfl⟩)
                | (go_at_call 13; refine (rotl_any _ _ (by decide) _).mono ?_; rintro e w' ⟨rfl, rfl⟩))
              refine H17.out _ _ ?_
              go_wp2_with (first
                | (go_at_call 14; refine (block_any _ _).mono ?_; rintro e w' ⟨rfl, rfl⟩)
                | (go_at_call 13; refine (rotl_any _ _ (by decide) _).mono ?_; rintro e w' ⟨rfl, rfl⟩))
              go_meet
              case rel => exact ⟨v_i64 (by rw [h1t_at d len k 7 HK.out Hr.out, if_pos (by decide), t1_7, e1]), v_i64 (by rw [h2t_at d len k 7 HK.out Hr.out, if_neg (by decide)]), rfl⟩
          | 8, _ =>
            as_aux_lemma =>
              have c0 : w.cell? ⟨b, off + len / 16 * 16, none⟩ = some (.int .u8 (U8 (d (len / 16 * 16 + 0)))) := by have := HR.out (len / 16 * 16 + 0) (by have := Hr.out; omega); simpa [Nat.add_assoc] using this
              have z0 : ((len / 16 : Nat) : Int) * 16 + 0 < (len : Int) := by have := Hr.out; omega
              have c1 : w.cell? ⟨b, off + len / 16 * 16 + 1, none⟩ = some (.int .u8 (U8 (d (len / 16 * 16 + 1)))) := by have := HR.out (len / 16 * 16 + 1) (by have := Hr.out; omega); simpa [Nat.add_assoc] using this
              have z1 : ((len / 16 : Nat) : Int) * 16 + 1 < (len : Int) := by have := Hr.out; omega
              have c2 : w.cell? ⟨b, off + len / 16 * 16 + 2, none⟩ = some (.int .u8 (U8 (d (len / 16 * 16 + 2)))) := by have := HR.out (len / 16 * 16 + 2) (by have := Hr.out; omega); simpa [Nat.add_assoc] using this
              have z2 : ((len / 16 : Nat) : Int) * 16 + 2 < (len : Int) := by have := Hr.out; omega
              have c3 : w.cell? ⟨b, off + len / 16 * 16 + 3, none⟩ = some (.int .u8 (U8 (d (len / 16 * 16 + 3)))) := by have := HR.out (len / 16 * 16 + 3) (by have := Hr.out; omega); simpa [Nat.add_assoc] using this
              have z3 : ((len / 16 : Nat) : Int) * 16 + 3 < (len : Int) := by have := Hr.out; omega
              have c4 : w.cell? ⟨b, off + len / 16 * 16 + 4, none⟩ = some (.int .u8 (U8 (d (len / 16 * 16 + 4)))) := by have := HR.out (len / 16 * 16 + 4) (by have := Hr.out; omega); simpa [Nat.add_assoc] using this
              have z4 : ((len / 16 : Nat) : Int) * 16 + 4 < (len : Int) := by have := Hr.out; omega
              have c5 : w.cell? ⟨b, off + len / 16 * 16 + 5, none⟩ = some (.int .u8 (U8 (d (len / 16 * 16 + 5)))) := by have := HR.out (len / 16 * 16 + 5) (by have := Hr.out; omega); simpa [Nat.add_assoc] using this
              have z5 : ((len / 16 : Nat) : Int) * 16 + 5 < (len : Int) := by have := Hr.out; omega
              have c6 : w.cell? ⟨b, off + len / 16 * 16 + 6, none⟩ = some (.int .u8 (U8 (d (len / 16 * 16 + 6)))) := by have := HR.out (len / 16 * 16 + 6) (by have := Hr.out; omega); simpa [Nat.add_assoc] using this
              have z6 : ((len / 16 : Nat) : Int) * 16 + 6 < (len : Int) := by have := Hr.out; omega
              have c7 : w.cell? ⟨b, off + len / 16 * 16 + 7, none⟩ = some (.int .u8 (U8 (d (len / 16 * 16 + 7)))) := by have := HR.out (len / 16 * 16 + 7) (by have := Hr.out; omega); simpa [Nat.add_assoc] using this
              have z7 : ((len / 16 : Nat) : Int) * 16 + 7 < (len : Int) := by have := Hr.out; omega
              have q15 : ((len : Int) % 16 == 15) = false := by have := Hr.out; simp; omega
              have q14 : ((len : Int) % 16 == 14) = false := by have := Hr.out; simp; omega
              have q13 : ((len : Int) % 16 == 13) = false := by have := Hr.out; simp; omega
              have q12 : ((len : Int) % 16 == 12) = false := by have := Hr.out; simp; omega
              have q11 : ((len : Int) % 16 == 11) = false := by have := Hr.out; simp; omega
              have q10 : ((len : Int) % 16 == 10) = false := by have := Hr.out; simp; omega
              have q9 : ((len : Int) % 16 == 9) = false := by have := Hr.out; simp; omega
              have q8 : ((len : Int) % 16 == 8) = true := by have := Hr.out; simp; omega
              refine wp_seq_k (fun KX hKX => ?_)
              have HX := Lib.hid hKX
              clear hKX
              refine wp_seq_k (fun KT hKT => ?_)
              have HT := Lib.hid hKT
              clear hKT
              go_wp2_with fail
              refine HT.out _ _ ?_
              clear HT
              refine wp_seq_k (fun KT hKT => ?_)
              have HT := Lib.hid hKT
              clear hKT
              go_wp2_with fail
              refine HT.out _ _ ?_
              clear HT
              refine wp_seq_k (fun KT hKT => ?_)
              have HT := Lib.hid hKT
              clear hKT
              go_wp2_with fail
              refine HT.out _ _ ?_
              clear HT
              refine wp_seq_k (fun KT hKT => ?_)
              have HT := Lib.hid hKT
              clear hKT
              go_wp2_with fail
              refine HT.out _ _ ?_
              clear HT
              refine wp_seq_k (fun KT hKT => ?_)
              have HT := Lib.hid hKT
              clear hKT
              go_wp2_with fail
              refine HT.out _ _ ?_
              clear HT
              refine wp_seq_k (fun KT hKT => ?_)
              have HT := Lib.hid hKT
              clear hKT
              go_wp2_with fail
              refine HT.out _ _ ?_
              clear HT
              refine wp_seq_k (fun KT hKT => ?_)
              have HT := Lib.hid hKT
              clear hKT
              go_wp2_with fail
              refine HT.out _ _ ?_
              clear HT
              refine wp_seq_k (fun KT hKT => ?_)
              have HT := Lib.hid hKT
              clear hKT
              refine wp_mono (Q := ExitIn 10 K10) ?_ (fun _ _ _ h => by obtain ⟨rfl, h⟩ := h; exact h)
              go_wp2_with fail
              refine ⟨rfl, ?_⟩
              refine H10.out _ _ ?_
              go_wp2_with (first
                | (go_at_call 14; refine (block_any _ _).mono ?_; rintro e w' ⟨rfl, rfl⟩)
                | (go_at_call 13; refine (rotl_any _ _ (by decide) _).mono ?_; rintro e w' ⟨rfl, rfl⟩))
              refine H11.out _ _ ?_
              go_wp2_with (first
                | (go_at_call 14; refine (block_any _ _).mono ?_; rintro e w' ⟨rfl, rfl⟩)
                | (go_at_call 13; refine (rotl_any _ _ (by decide) _).mono ?_; rintro e w' ⟨rfl, rfl⟩))
              refine H12.out _ _ ?_
              go_wp2_with (first
                | (go_at_call 14; refine (block_any _ _).mono ?_; rintro e w' ⟨rfl, rfl⟩)
                | (go_at_call 13; refine (rotl_any _ _ (by decide) _).mono ?_; rintro e w' ⟨rfl, rfl⟩))
              refine H13.out _ _ ?_
              go_wp2_with (first
                | (go_at_call 14; refine (block_any _ _).mono ?_; rintro e w' ⟨rfl, rfl⟩)
                | (go_at_call 13; refine (rotl_any _ _ (by decide) _).mono ?_; rintro e w' ⟨rfl, rfl⟩))
              refine H14.out _ _ ?_
              go_wp2_with (first
                | (go_at_call 14; refine (block_any _ _).mono ?_; rintro e w' ⟨rfl, rfl⟩)
                | (go_at_call 13; refine (rotl_any _ _ (by decide) _).mono ?_; rintro e w' ⟨rfl, rfl⟩))
              refine H15.out _ _ ?_
              go_wp2_with (first
                | (go_at_call 14; refine (block_any _ _).mono ?_; rintro e w' ⟨rfl, rfl⟩)
                | (go_at_call 13; refine (rotl_any _ _ (by decide) _).mono ?_; rintro e w' ⟨rfl, rfl⟩))
              refine H16.out _ _ ?_
              go_wp2_with (first
                | (go_at_call 14; refine (block_any _ _).mono ?_; rintro e w' ⟨rfl, rfl⟩)
                | (go_at_call 13; refine (rotl_any _ _ (by decide) _).mono ?_; rintro e w' ⟨rfl, rfl⟩))
              refine H17.out _ _ ?_
              go_wp2_with (first
                | (go_at_call 14; refine (block_any _ _).mono ?_; rintro e w' ⟨rfl, rfl⟩)
                | (go_at_call 13; refine (rotl_any _ _ (by decide) _).mono ?_; rintro e w' ⟨rfl, rfl⟩))
              go_meet
              case rel => exact ⟨v_i64 (by rw [h1t_at d len k 8 HK.out Hr.out, if_pos (by decide), t1_8, e1]), v_i64 (by rw [h2t_at d len k 8 HK.out Hr.out, if_neg (by decide)]), rfl⟩
          | 9, _ =>
            as_aux_lemma =>
              have c0 : w.cell? ⟨b, off + len / 16 * 16, none⟩ = some (.int .u8 (U8 (d (len / 16 * 16 + 0)))) := by have := HR.out (len / 16 * 16 + 0) (by have := Hr.out; omega); simpa [Nat.add_assoc] using this
              have z0 : ((len / 16 : Nat) : Int) * 16 + 0 < (len : Int) := by have := Hr.out; omega
              have c1 : w.cell? ⟨b, off + len / 16 * 16 + 1, none⟩ = some (.int .u8 (U8 (d (len / 16 * 16 + 1)))) := by have := HR.out (len / 16 * 16 + 1) (by have := Hr.out; omega); simpa [Nat.add_assoc] using this
              have z1 : ((len / 16 : Nat) : Int) * 16 + 1 < (len : Int) := by have := Hr.out; omega
              have c2 : w.cell? ⟨b, off + len / 16 * 16 + 2, none⟩ = some (.int .u8 (U8 (d (len / 16 * 16 + 2)))) := by have := HR.out (len / 16 * 16 + 2) (by have := Hr.out; omega); simpa [Nat.add_assoc] using this
              have z2 : ((len / 16 : Nat) : Int) * 16 + 2 < (len : Int) := by have := Hr.out; omega
              have c3 : w.cell? ⟨b, off + len / 16 * 16 + 3, none⟩ = some (.int .u8 (U8 (d (len / 16 * 16 + 3)))) := by have := HR.out (len / 16 * 16 + 3) (by have := Hr.out; omega); simpa [Nat.add_assoc] using this
              have z3 : ((len / 16 : Nat) : Int) * 16 + 3 < (len : Int) := by have := Hr.out; omega
              have c4 : w.cell? ⟨b, off + len / 16 * 16 + 4, none⟩ = some (.int .u8 (U8 (d (len / 16 * 16 + 4)))) := by have := HR.out (len / 16 * 16 + 4) (by have := Hr.out; omega); simpa [Nat.add_assoc] using this
              have z4 : ((len / 16 : Nat) : Int) * 16 + 4 < (len : Int) := by have := Hr.out; omega
              have c5 : w.cell? ⟨b, off + len / 16 * 16 + 5, none⟩ = some (.int .u8 (U8 (d (len / 16 * 16 + 5)))) := by have := HR.out (len / 16 * 16 + 5) (by have := Hr.out; omega); simpa [Nat.add_assoc] using this
              have z5 : ((len / 16 : Nat) : Int) * 16 + 5 < (len : Int) := by have := Hr.out; omega
              have c6 : w.cell? ⟨b, off + len / 16 * 16 + 6, none⟩ = some (.int .u8 (U8 (d (len / 16 * 16 + 6)))) := by have := HR.out (len / 16 * 16 + 6) (by have := Hr.out; omega); simpa [Nat.add_assoc] using this
              have z6 : ((len / 16 : Nat) : Int) * 16 + 6 < (len : Int) := by have := Hr.out; omega
              have c7 : w.cell? ⟨b, off + len / 16 * 16 + 7, none⟩ = some (.int .u8 (U8 (d (len / 16 * 16 + 7)))) := by have := HR.out (len / 16 * 16 + 7) (by have := Hr.out; omega); simpa [Nat.add_assoc] using this
              have z7 : ((len / 16 : Nat) : Int) * 16 + 7 < (len : Int) := by have := Hr.out; omega
              have c8 : w.cell? ⟨b, off + len / 16 * 16 + 8, none⟩ = some (.int .u8 (U8 (d (len / 16 * 16 + 8)))) := by have := HR.out (len / 16 * 16 + 8) (by have := Hr.out; omega); simpa [Nat.add_assoc] using this
              have z8 : ((len / 16 : Nat) : Int) * 16 + 8 < (len : Int) := by have := Hr.out; omega
              have q15 : ((len : Int) % 16 == 15) = false := by have := Hr.out; simp; omega
              have q14 : ((len : Int) % 16 == 14) = false := by have := Hr.out; simp; omega
              have q13 : ((len : Int) % 16 == 13) = false := by have := Hr.out; simp; omega
              have q12 : ((len : Int) % 16 == 12) = false := by have := Hr.out; simp; omega
              have q11 : ((len : Int) % 16 == 11) = false := by have := Hr.out; simp; omega
              have q10 : ((len : Int) % 16 == 10) = false := by have := Hr.out; simp; omega
              have q9 : ((len : Int) % 16 == 9) = true := by have := Hr.out; simp; omega
              refine wp_seq_k (fun KX hKX => ?_)
              have HX := Lib.hid hKX
              clear hKX
              refine wp_seq_k (fun KT hKT => ?_)
              have HT := Lib.hid hKT
              clear hKT
              go_wp2_with fail
              refine HT.out _ _ ?_
              clear HT
              refine wp_seq_k (fun KT hKT => ?_)
              have HT := Lib.hid hKT
              clear hKT
              go_wp2_with fail
              refine HT.out _ _ ?_
              clear HT
              refine wp_seq_k (fun KT hKT => ?_)
              have HT := Lib.hid hKT
              clear hKT
              go_wp2_with fail
              refine HT.out _ _ ?_
              clear HT
              refine wp_seq_k (fun KT hKT => ?_)
              have HT := Lib.hid hKT
              clear hKT
              go_wp2_with fail
              refine HT.out _ _ ?_
              clear HT
              refine wp_seq_k (fun KT hKT => ?_)
              have HT := Lib.hid hKT
              clear hKT
              go_wp2_with fail
              refine HT.out _ _ ?_
              clear HT
              refine wp_seq_k (fun KT hKT => ?_)
              have HT := Lib.hid hKT
              clear hKT
              go_wp2_with fail
              refine HT.out _ _ ?_
              clear HT
              refine wp_seq_k (fun KT hKT => ?_)
              have HT := Lib.hid hKT
              clear hKT
              refine wp_mono (Q := ExitIn 9 K9) ?_ (fun _ _ _ h => by obtain ⟨rfl, h⟩ := h; exact h)
              go_wp2_with fail
              refine ⟨rfl, ?_⟩
              refine H9.out _ _ ?_
              go_wp2_with (first
                | (go_at_call 14; refine (block_any _ _).mono ?_; rintro e w' ⟨rfl, rfl⟩)
                | (go_at_call 13; refine (rotl_any _ _ (by decide) _).mono ?_; rintro e w' ⟨rfl, rfl⟩))
              refine H10.out _ _ ?_
              go_wp2_with (first
                | (go_at_call 14; refine (block_any _ _).mono ?_; rintro e w' ⟨rfl, rfl⟩)
                | (go_at_call 13; refine (rotl_any _ _ (by decide) _).mono ?_; rintro e w' ⟨rfl, rfl⟩))
              refine H11.out _ _ ?_
              go_wp2_with (first
                | (go_at_call 14; refine (block_any _ _).mono ?_; rintro e w' ⟨rfl, rfl⟩)
                | (go_at_call 13; refine (rotl_any _ _ (by decide) _).mono ?_; rintro e w' ⟨rfl, rfl⟩))
              refine H12.out _ _ ?_
              go_wp2_with (first
                | (go_at_call 14; refine (block_any _ _).mono ?_; rintro e w' ⟨rfl, rfl⟩)
                | (go_at_call 13; refine (rotl_any _ _ (by decide) _).mono ?_; rintro e w' ⟨rfl, rfl⟩))
              refine H13.out _ _ ?_
              go_wp2_with (first
                | (go_at_call 14; refine (block_any _ _).mono ?_; rintro e w' ⟨rfl, rfl⟩)
                | (go_at_call 13; refine (rotl_any _ _ (by decide) _).mono ?_; rintro e w' ⟨rfl, rfl⟩))
              refine H14.out _ _ ?_
              go_wp2_with (first
                | (go_at_call 14; refine (block_any _ _).mono ?_; rintro e w' ⟨rfl, rfl⟩)
                | (go_at_call 13; refine (rotl_any _ _ (by decide) _).mono ?_; rintro e w' ⟨rfl, rfl⟩))
              refine H15.out _ _ ?_
              go_wp2_with (first
                | (go_at_call 14; refine (block_any _ _).mono ?_; rintro e w' ⟨rfl, rfl⟩)
                | (go_at_call 13; refine (rotl_any _ _ (by decide) _).mono ?_; rintro e w' ⟨rfl, rfl⟩))
              refine H16.out _ _ ?_
              go_wp2_with (first
                | (go_at_call 14; refine (block_any _ _).mono ?_; rintro e w' ⟨rfl, rfl⟩)
                | (go_at_call 13; refine (rotl_any _ _ (by decide) _).mono ?_; rintro e w' ⟨rfl, rfl⟩))
              refine H17.out _ _ ?_
              go_wp2_with (first
                | (go_at_call 14; refine (block_any _ _).mono ?_; rintro e w' ⟨rfl, rfl⟩)
                | (go_at_call 13; refine (rotl_any _ _ (by decide) _).mono ?_; rintro e w' ⟨rfl, rfl⟩))
              go_meet
              case rel => exact ⟨v_i64 (by rw [h1t_at d len k 9 HK.out Hr.out, if_pos (by decide), t1_9, e1]), v_i64 (by rw [h2t_at d len k 9 HK.out Hr.out, if_pos (by decide), t2_9, e2]), rfl⟩
          | 10, _ =>
            as_aux_lemma =>
              have c0 : w.cell? ⟨b, off + len / 16 * 16, none⟩ = some (.int .u8 (U8 (d (len / 16 * 16 + 0)))) := by have := HR.out (len / 16 * 16 + 0) (by have := Hr.out; omega); simpa [Nat.add_assoc] using this
              have z0 : ((len / 16 : Nat) : Int) * 16 + 0 < (len : Int) := by have := Hr.out; omega
              have c1 : w.cell? ⟨b, off + len / 16 * 16 + 1, none⟩ = some (.int .u8 (U8 (d (len / 16 * 16 + 1)))) := by have := HR.out (len / 16 * 16 + 1) (by have := Hr.out; omega); simpa [Nat.add_assoc] using this
              have z1 : ((len / 16 : Nat) : Int) * 16 + 1 < (len : Int) := by have := Hr.out; omega
              have c2 : w.cell? ⟨b, off + len / 16 * 16 + 2, none⟩ = some (.int .u8 (U8 (d (len / 16 * 16 + 2)))) := by have := HR.out (len / 16 * 16 + 2) (by have := Hr.out; omega); simpa [Nat.add_assoc] using this
              have z2 : ((len / 16 : Nat) : Int) * 16 + 2 < (len : Int) := by have := Hr.out; omega
              have c3 : w.cell? ⟨b, off + len / 16 * 16 + 3, none⟩ = some (.int .u8 (U8 (d (len / 16 * 16 + 3)))) := by have := HR.out (len / 16 * 16 + 3) (by have := Hr.out; omega); simpa [Nat.add_assoc] using this
              have z3 : ((len / 16 : Nat) : Int) * 16 + 3 < (len : Int) := by have := Hr.out; omega
              have c4 : w.cell? ⟨b, off + len / 16 * 16 + 4, none⟩ = some (.int .u8 (U8 (d (len / 16 * 16 + 4)))) := by have := HR.out (len / 16 * 16 + 4) (by have := Hr.out; omega); simpa [Nat.add_assoc] using this
              have z4 : ((len / 16 : Nat) : Int) * 16 + 4 < (len : Int) := by have := Hr.out; omega
              have c5 : w.cell? ⟨b, off + len / 16 * 16 + 5, none⟩ = some (.int .u8 (U8 (d (len / 16 * 16 + 5)))) := by have := HR.out (len / 16 * 16 + 5) (by have := Hr.out; omega); simpa [Nat.add_assoc] using this
              have z5 : ((len / 16 : Nat) : Int) * 16 + 5 < (len : Int) := by have := Hr.out; omega
              have c6 : w.cell? ⟨b, off + len / 16 * 16 + 6, none⟩ = some (.int .u8 (U8 (d (len / 16 * 16 + 6)))) := by have := HR.out (len / 16 * 16 + 6) (by have := Hr.out; omega); simpa [Nat.add_assoc] using this
              have z6 : ((len / 16 : Nat) : Int) * 16 + 6 < (len : Int) := by have := Hr.out; omega
              have c7 : w.cell? ⟨b, off + len / 16 * 16 + 7, none⟩ = some (.int .u8 (U8 (d (len / 16 * 16 + 7)))) := by have := HR.out (len / 16 * 16 + 7) (by have := Hr.out; omega); simpa [Nat.add_assoc] using this
              have z7 : ((len / 16 : Nat) : Int) * 16 + 7 < (len : Int) := by have := Hr.out; omega
              have c8 : w.cell? ⟨b, off + len / 16 * 16 + 8, none⟩ = some (.int .u8 (U8 (d (len / 16 * 16 + 8)))) := by have := HR.out (len / 16 * 16 + 8) (by have := Hr.out; omega); simpa [Nat.add_assoc] using this
              have z8 : ((len / 16 : Nat) : Int) * 16 + 8 < (len : Int) := by have := Hr.out; omega
              have c9 : w.cell? ⟨b, off + len / 16 * 16 + 9, none⟩ = some (.int .u8 (U8 (d (len / 16 * 16 + 9)))) := by have := HR.out (len / 16 * 16 + 9) (by have := Hr.out; omega); simpa [Nat.add_assoc] using this
              have z9 : ((len / 16 : Nat) : Int) * 16 + 9 < (len : Int) := by have := Hr.out; omega
              have q15 : ((len : Int) % 16 == 15) = false := by have := Hr.out; simp; omega
              have q14 : ((len : Int) % 16 == 14) = false := by have := Hr.out; simp; omega
              have q13 : ((len : Int) % 16 == 13) = false := by have := Hr.out; simp; omega
              have q12 : ((len : Int) % 16 == 12) = false := by have := Hr.out; simp; omega
              have q11 : ((len : Int) % 16 == 11) = false := by have := Hr.out; simp; omega
              have q10 : ((len : Int) % 16 == 10) = true := by have := Hr.out; simp; omega
              refine wp_seq_k (fun KX hKX => ?_)
              have HX := Lib.hid hKX
              clear hKX
              refine wp_seq_k (fun KT hKT => ?_)
              have HT := Lib.hid hKT
              clear hKT
              go_wp2_with fail
              refine HT.out _ _ ?_
              clear HT
              refine wp_seq_k (fun KT hKT => ?_)
              have HT := Lib.hid hKT
              clear hKT
              go_wp2_with fail
              refine HT.out _ _ ?_
              clear HT
              refine wp_seq_k (fun KT hKT => ?_)
              have HT := Lib.hid hKT
              clear hKT
              go_wp2_with fail
              refine HT.out _ _ ?_
              clear HT
              refine wp_seq_k (fun KT hKT => ?_)
              have HT := Lib.hid hKT
              clear hKT
              go_wp2_with fail
              refine HT.out _ _ ?_
              clear HT
              refine wp_seq_k (fun KT hKT => ?_)
              have HT := Lib.hid hKT
              clear hKT
              go_wp2_with fail
              refine HT.out _ _ ?_
              clear HT
              refine wp_seq_k (fun KT hKT => ?_)
              have HT := Lib.hid hKT
              clear hKT
              refine wp_mono (Q := ExitIn 8 K8) ?_ (fun _ _ _ h => by obtain ⟨rfl, h⟩ := h; exact h)
              go_wp2_with fail
              refine ⟨rfl, ?_⟩
              refine H8.out _ _ ?_
              go_wp2_with (first
                | (go_at_call 14; refine (block_any _ _).mono ?_; rintro e w' ⟨rfl, rfl⟩)
                | (go_at_call 13; refine (rotl_any _ _ (by decide) _).mono ?_; rintro e w' ⟨rfl, rfl⟩))
              refine H9.out _ _ ?_
              go_wp2_with (first
                | (go_at_call 14; refine (block_any _ _).mono ?_; rintro e w' ⟨rfl, rfl⟩)
                | (go_at_call 13; refine (rotl_any _ _ (by decide) _).mono ?_; rintro e w' ⟨rfl, rfl⟩))
              refine H10.out _ _ ?_
              go_wp2_with (first
                | (go_at_call 14; refine (block_any _ _).mono ?_; rintro e w' ⟨rfl, rfl⟩)
                | (go_at_call 13; refine (rotl_any _ _ (by decide) _).mono ?_; rintro e w' ⟨rfl, rfl⟩))
              refine H11.out _ _ ?_
              go_wp2_with (first
                | (go_at_call 14; refine (block_any _ _).mono ?_; rintro e w' ⟨rfl, rfl⟩)
                | (go_at_call 13; refine (rotl_any _ _ (by decide) _).mono ?_; rintro e w' ⟨rfl, rfl⟩))
              refine H12.out _ _ ?_
              go_wp2_with (first
                | (go_at_call 14; refine (block_any _ _).mono ?_; rintro e w' ⟨rfl, rfl⟩)
                | (go_at_call 13; refine (rotl_any _ _ (by decide) _).mono ?_; rintro e w' ⟨rfl, rfl⟩))
              refine H13.out _ _ ?_
              go_wp2_with (first
                | (go_at_call 14; refine (block_any _ _).mono ?_; rintro e w' ⟨rfl, rfl⟩)
                | (go_at_call 13; refine (rotl_any _ _ (by decide) _).mono ?_; rintro e w' ⟨rfl, rfl⟩))
              refine H14.out _ _ ?_
              go_wp2_with (first
                | (go_at_call 14; refine (block_any _ _).mono ?_; rintro e w' ⟨rfl, rfl⟩)
                | (go_at_call 13; refine (rotl_any _ _ (by decide) _).mono ?_; rintro e w' ⟨rfl, rfl⟩))
              refine H15.out _ _ ?_
              go_wp2_with (first
                | (go_at_call 14; refine (block_any _ _).mono ?_; rintro e w' ⟨rfl, rfl⟩)
                | (go_at_call 13; refine (rotl_any _ _ (by decide) _).mono ?_; rintro e w' ⟨rfl, rfl⟩))
              refine H16.out _ _ ?_
              go_wp2_with (first
                | (go_at_call 14; refine (block_any _ _).mono ?_; rintro e w' ⟨rfl, rfl⟩)
                | (go_at_call 13; refine (rotl_any _ _ (by decide) _).mono ?_; rintro e w' ⟨rfl, rfl⟩))
              refine H17.out _ _ ?_
              go_wp2_with (first
                | (go_at_call 14; refine (block_any _ _).mono ?_; rintro e w' ⟨rfl, rfl⟩)
                | (go_at_call 13; refine (rotl_any _ _ (by decide) _).mono ?_; rintro e w' ⟨rfl, rfl⟩))
              go_meet
              case rel => exact ⟨v_i64 (by rw [h1t_at d len k 10 HK.out Hr.out, if_pos (by decide), t1_10, e1]), v_i64 (by rw [h2t_at d len k 10 HK.out Hr.out, if_pos (by decide), t2_10, e2]), rfl⟩
          | 11, _ =>
            as_aux_lemma =>
              have c0 : w.cell? ⟨b, off + len / 16 * 16, none⟩ = some (.int .u8 (U8 (d (len / 16 * 16 + 0)))) := by have := HR.out (len / 16 * 16 + 0) (by have := Hr.out; omega); simpa [Nat.add_assoc] using this
              have z0 : ((len / 16 : Nat) : Int) * 16 + 0 < (len : Int) := by have := Hr.out; omega
              have c1 : w.cell? ⟨b, off + len / 16 * 16 + 1, none⟩ = some (.int .u8 (U8 (d (len / 16 * 16 + 1)))) := by have := HR.out (len / 16 * 16 + 1) (by have := Hr.out; omega); simpa [Nat.add_assoc] using this
              have z1 : ((len / 16 : Nat) : Int) * 16 + 1 < (len : Int) := by have := Hr.out; omega
              have c2 : w.cell? ⟨b, off + len / 16 * 16 + 2, none⟩ = some (.int .u8 (U8 (d (len / 16 * 16 + 2)))) := by have := HR.out (len / 16 * 16 + 2) (by have := Hr.out; omega); simpa [Nat.add_assoc] using this
              have z2 : ((len / 16 : Nat) : Int) * 16 + 2 < (len : Int) := by have := Hr.out; omega
              have c3 : w.cell? ⟨b, off + len / 16 * 16 + 3, none⟩ = some (.int .u8 (U8 (d (len / 16 * 16 + 3)))) := by have := HR.out (len / 16 * 16 + 3) (by have := Hr.out; omega); simpa [Nat.add_assoc] using this
              have z3 : ((len / 16 : Nat) : Int) * 16 + 3 < (len : Int) := by have := Hr.out; omega
              have c4 : w.cell? ⟨b, off + len / 16 * 16 + 4, none⟩ = some (.int .u8 (U8 (d (len / 16 * 16 + 4)))) := by have := HR.out (len / 16 * 16 + 4) (by have := Hr.out; omega); simpa [Nat.add_assoc] using this
              have z4 : ((len / 16 : Nat) : Int) * 16 + 4 < (len : Int) := by have := Hr.out; omega
              have c5 : w.cell? ⟨b, off + len / 16 * 16 + 5, none⟩ = some (.int .u8 (U8 (d (len / 16 * 16 + 5)))) := by have := HR.out (len / 16 * 16 + 5) (by have := Hr.out; omega); simpa [Nat.add_assoc] using this
              have z5 : ((len / 16 : Nat) : Int) * 16 + 5 < (len : Int) := by have := Hr.out; omega
              have c6 : w.cell? ⟨b, off + len / 16 * 16 + 6, none⟩ = some (.int .u8 (U8 (d (len / 16 * 16 + 6)))) := by have := HR.out (len / 16 * 16 + 6) (by have := Hr.out; omega); simpa [Nat.add_assoc] using this
              have z6 : ((len / 16 : Nat) : Int) * 16 + 6 < (len : Int) := by have := Hr.out; omega
              have c7 : w.cell? ⟨b, off + len / 16 * 16 + 7, none⟩ = some (.int .u8 (U8 (d (len / 16 * 16 + 7)))) := by have := HR.out (len / 16 * 16 + 7) (by have := Hr.out; omega); simpa [Nat.add_assoc] using this
              have z7 : ((len / 16 : Nat) : Int) * 16 + 7 < (len : Int) := by have := Hr.out; omega
              have c8 : w.cell? ⟨b, off + len / 16 * 16 + 8, none⟩ = some (.int .u8 (U8 (d (len / 16 * 16 + 8)))) := by have := HR.out (len / 16 * 16 + 8) (by have := Hr.out; omega); simpa [Nat.add_assoc] using this
              have z8 : ((len / 16 : Nat) : Int) * 16 + 8 < (len : Int) := by have := Hr.out; omega
              have c9 : w.cell? ⟨b, off + len / 16 * 16 + 9, none⟩ = some (.int .u8 (U8 (d (len / 16 * 16 + 9)))) := by have := HR.out (len / 16 * 16 + 9) (by have := Hr.out; omega); simpa [Nat.add_assoc] using this
              have z9 : ((len / 16 : Nat) : Int) * 16 + 9 < (len : Int) := by have := Hr.out; omega
              have c10 : w.cell? ⟨b, off + len / 16 * 16 + 10, none⟩ = some (.int .u8 (U8 (d (len / 16 * 16 + 10)))) := by have := HR.out (len / 16 * 16 + 10) (by have := Hr.out; omega); simpa [Nat.add_assoc] using this
              have z10 : ((len / 16 : Nat) : Int) * 16 + 10 < (len : Int) := by have := Hr.out; omega
              have q15 : ((len : Int) % 16 == 15) = false := by have := Hr.out; simp; omega
              have q14 : ((len : Int) % 16 == 14) = false := by have := Hr.out; simp; omega
              have q13 : ((len : Int) % 16 == 13) = false := by have := Hr.out; simp; omega
              have q12 : ((len : Int) % 16 == 12) = false := by have := Hr.out; simp; omega
              have q11 : ((len : Int) % 16 == 11) = true := by have := Hr.out; simp; omega
              refine wp_seq_k (fun KX hKX => ?_)
              have HX := Lib.hid hKX
              clear hKX
              refine wp_seq_k (fun KT hKT => ?_)
              have HT := Lib.hid hKT
              clear hKT
              go_wp2_with fail
              refine HT.out _ _ ?_
              clear HT
              refine wp_seq_k (fun KT hKT => ?_)
              have HT := Lib.hid hKT
              clear hKT
              go_wp2_with fail
              refine HT.out _ _ ?_
              clear HT
              refine wp_seq_k (fun KT hKT => ?_)
              have HT := Lib.hid hKT
              clear hKT
              go_wp2_with fail
              refine HT.out _ _ ?_
              clear HT
              refine wp_seq_k (fun KT hKT => ?_)
              have HT := Lib.hid hKT
              clear hKT
              go_wp2_with fail
              refine HT.out _ _ ?_
              clear HT
              refine wp_seq_k (fun KT hKT => ?_)
              have HT := Lib.hid hKT
              clear hKT
              refine wp_mono (Q := ExitIn 7 K7) ?_ (fun _ _ _ h => by obtain ⟨rfl, h⟩ := h; exact h)
              go_wp2_with fail
              refine ⟨rfl, ?_⟩
              refine H7.out _ _ ?_
              go_wp2_with (first
                | (go_at_call 14; refine (block_any _ _).mono ?_; rintro e w' ⟨rfl, rfl⟩)
                | (go_at_call 13; refine (rotl_any _ _ (by decide) _).mono ?_; rintro e w' ⟨rfl, rfl⟩))
              refine H8.out _ _ ?_
              go_wp2_with (first
                | (go_at_call 14; refine (block_any _ _).mono ?_; rintro e w' ⟨rfl, rfl⟩)
                | (go_at_call 13; refine (rotl_any _ _ (by decide) _).mono ?_; rintro e w' ⟨rfl, rfl⟩))
              refine H9.out _ _ ?_
              go_wp2_with (first
                | (go_at_call 14; refine (block_any _ _).mono ?_; rintro e w' ⟨rfl, rfl⟩)
                | (go_at_call 13; refine (rotl_any _ _ (by decide) _).mono ?_; rintro e w' ⟨rfl, rfl⟩))
              refine H10.out _ _ ?_
              go_wp2_with (first
                | (go_at_call 14; refine (block_any _ _).mono ?_; rintro e w' ⟨rfl, rfl⟩)
                | (go_at_call 13; refine (rotl_any _ _ (by decide) _).mono ?_; rintro e w' ⟨rfl, rfl⟩))
              refine H11.out _ _ ?_
              go_wp2_with (first
                | (go_at_call 14; refine (block_any _ _).mono ?_; rintro e w' ⟨rfl, rfl⟩)
                | (go_at_call 13; refine (rotl_any _ _ (by decide) _).mono ?_; rintro e w' ⟨rfl, rfl⟩))
              refine H12.out _ _ ?_
              go_wp2_with (first
                | (go_at_call 14; refine (block_any _ _).mono ?_; rintro e w' ⟨rfl, rfl⟩)
                | (go_at_call 13; refine (rotl_any _ _ (by decide) _).mono ?_; rintro e w' ⟨rfl, rfl⟩))
              refine H13.out _ _ ?_
              go_wp2_with (first
                | (go_at_call 14; refine (block_any _ _).mono ?_; rintro e w' ⟨rfl, rfl⟩)
                | (go_at_call 13; refine (rotl_any _ _ (by decide) _).mono ?_; rintro e w' ⟨rfl, rfl⟩))
              refine H14.out _ _ ?_
              go_wp2_with (first
                | (go_at_call 14; refine (block_any _ _).mono ?_; rintro e w' ⟨rfl, rfl⟩)
                | (go_at_call 13; refine (rotl_any _ _ (by decide) _).mono ?_; rintro e w' ⟨rfl, rfl⟩))
              refine H15.out _ _ ?_
              go_wp2_with (first
                | (go_at_call 14; refine (block_any _ _).mono ?_; rintro e w' ⟨rfl, rfl⟩)
                | (go_at_call 13; refine (rotl_any _ _ (by decide) _).mono ?_; rintro e w' ⟨rfl, rfl⟩))
              refine H16.out _ _ ?_
              go_wp2_with (first
                | (go_at_call 14; refine (block_any _ _).mono ?_; rintro e w' ⟨rfl, rfl⟩)
                | (go_at_call 13; refine (rotl_any _ _ (by decide) _).mono ?_; rintro e w' ⟨rfl, rfl⟩))
              refine H17.out _ _ ?_
              go_wp2_with (first
                | (go_at_call 14; refine (block_any _ _).mono ?_; rintro e w' ⟨rfl, rfl⟩)
                | (go_at_call 13; refine (rotl_any _ _ (by decide) _).mono ?_; rintro e w' ⟨rfl, rfl⟩))
              go_meet
              case rel => exact ⟨v_i64 (by rw [h1t_at d len k 11 HK.out Hr.out, if_pos (by decide), t1_11, e1]), v_i64 (by rw [h2t_at d len k 11 HK.out Hr.out, if_pos (by decide), t2_11, e2]), rfl⟩
          | 12, _ =>
            as_aux_lemma =>
              have c0 : w.cell? ⟨b, off + len / 16 * 16, none⟩ = some (.int .u8 (U8 (d (len / 16 * 16 + 0)))) := by have := HR.out (len / 16 * 16 + 0) (by have := Hr.out; omega); simpa [Nat.add_assoc] using this
              have z0 : ((len / 16 : Nat) : Int) * 16 + 0 < (len : Int) := by have := Hr.out; omega
              have c1 : w.cell? ⟨b, off + len / 16 * 16 + 1, none⟩ = some (.int .u8 (U8 (d (len / 16 * 16 + 1)))) := by have := HR.out (len / 16 * 16 + 1) (by have := Hr.out; omega); simpa [Nat.add_assoc] using this
              have z1 : ((len / 16 : Nat) : Int) * 16 + 1 < (len : Int) := by have := Hr.out; omega
              have c2 : w.cell? ⟨b, off + len / 16 * 16 + 2, none⟩ = some (.int .u8 (U8 (d (len / 16 * 16 + 2)))) := by have := HR.out (len / 16 * 16 + 2) (by have := Hr.out; omega); simpa [Nat.add_assoc] using this
              have z2 : ((len / 16 : Nat) : Int) * 16 + 2 < (len : Int) := by have := Hr.out; omega
              have c3 : w.cell? ⟨b, off + len / 16 * 16 + 3, none⟩ = some (.int .u8 (U8 (d (len / 16 * 16 + 3)))) := by have := HR.out (len / 16 * 16 + 3) (by have := Hr.out; omega); simpa [Nat.add_assoc] using this
              have z3 : ((len / 16 : Nat) : Int) * 16 + 3 < (len : Int) := by have := Hr.out; omega
              have c4 : w.cell? ⟨b, off + len / 16 * 16 + 4, none⟩ = some (.int .u8 (U8 (d (len / 16 * 16 + 4)))) := by have := HR.out (len / 16 * 16 + 4) (by have := Hr.out; omega); simpa [Nat.add_assoc] using this
              have z4 : ((len / 16 : Nat) : Int) * 16 + 4 < (len : Int) := by have := Hr.out; omega
              have c5 : w.cell? ⟨b, off + len / 16 * 16 + 5, none⟩ = some (.int .u8 (U8 (d (len / 16 * 16 + 5)))) := by have := HR.out (len / 16 * 16 + 5) (by have := Hr.out; omega); simpa [Nat.add_assoc] using this
              have z5 : ((len / 16 : Nat) : Int) * 16 + 5 < (len : Int) := by have := Hr.out; omega
              have c6 : w.cell? ⟨b, off + len / 16 * 16 + 6, none⟩ = some (.int .u8 (U8 (d (len / 16 * 16 + 6)))) := by have := HR.out (len / 16 * 16 + 6) (by have := Hr.out; omega); simpa [Nat.add_assoc] using this
              have z6 : ((len / 16 : Nat) : Int) * 16 + 6 < (len : Int) := by have := Hr.out; omega
              have c7 : w.cell? ⟨b, off + len / 16 * 16 + 7, none⟩ = some (.int .u8 (U8 (d (len / 16 * 16 + 7)))) := by have := HR.out (len / 16 * 16 + 7) (by have := Hr.out; omega); simpa [Nat.add_assoc] using this
              have z7 : ((len / 16 : Nat) : Int) * 16 + 7 < (len : Int) := by have := Hr.out; omega
              have c8 : w.cell? ⟨b, off + len / 16 * 16 + 8, none⟩ = some (.int .u8 (U8 (d (len / 16 * 16 + 8)))) := by have := HR.out (len / 16 * 16 + 8) (by have := Hr.out; omega); simpa [Nat.add_assoc] using this
              have z8 : ((len / 16 : Nat) : Int) * 16 + 8 < (len : Int) := by have := Hr.out; omega
              have c9 : w.cell? ⟨b, off + len / 16 * 16 + 9, none⟩ = some (.int .u8 (U8 (d (len / 16 * 16 + 9)))) := by have := HR.out (len / 16 * 16 + 9) (by have := Hr.out; omega); simpa [Nat.add_assoc] using this
              have z9 : ((len / 16 : Nat) : Int) * 16 + 9 < (len : Int) := by have := Hr.out; omega
              have c10 : w.cell? ⟨b, off + len / 16 * 16 + 10, none⟩ = some (.int .u8 (U8 (d (len / 16 * 16 + 10)))) := by have := HR.out (len / 16 * 16 + 10) (by have := Hr.out; omega); simpa [Nat.add_assoc] using this
              have z10 : ((len / 16 : Nat) : Int) * 16 + 10 < (len : Int) := by have := Hr.out; omega
              have c11 : w.cell? ⟨b, off + len / 16 * 16 + 11, none⟩ = some (.int .u8 (U8 (d (len / 16 * 16 + 11)))) := by have := HR.out (len / 16 * 16 + 11) (by have := Hr.out; omega); simpa [Nat.add_assoc] using this
              have z11 : ((len / 16 : Nat) : Int) * 16 + 11 < (len : Int) := by have := Hr.out; omega
              have q15 : ((len : Int) % 16 == 15) = false := by have := Hr.out; simp; omega
              have q14 : ((len : Int) % 16 == 14) = false := by have := Hr.out; simp; omega
              have q13 : ((len : Int) % 16 == 13) = false := by have := Hr.out; simp; omega
              have q12 : ((len : Int) % 16 == 12) = true := by have := Hr.out; simp; omega
              refine wp_seq_k (fun KX hKX => ?_)
              have HX := Lib.hid hKX
              clear hKX
              refine wp_seq_k (fun KT hKT => ?_)
              have HT := Lib.hid hKT
              clear hKT
              go_wp2_with fail
              refine HT.out _ _ ?_
              clear HT
              refine wp_seq_k (fun KT hKT => ?_)
              have HT := Lib.hid hKT
              clear hKT
              go_wp2_with fail
              refine HT.out _ _ ?_
              clear HT
              refine wp_seq_k (fun KT hKT => ?_)
              have HT := Lib.hid hKT
              clear hKT
              go_wp2_with fail
              refine HT.out _ _ ?_
              clear HT
              refine wp_seq_k (fun KT hKT => ?_)
              have HT := Lib.hid hKT
              clear hKT
              refine wp_mono (Q := ExitIn 6 K6) ?_ (fun _ _ _ h => by obtain ⟨rfl, h⟩ := h; exact h)
              go_wp2_with fail
              refine ⟨rfl, ?_⟩
              refine H6.out _ _ ?_
              go_wp2_with (first
                | (go_at_call 14; refine (block_any _ _).mono ?_; rintro e w' ⟨rfl, rfl⟩)
                | (go_at_call 13; refine (rotl_any _ _ (by decide) _).mono ?_; rintro e w' ⟨rfl, rfl⟩))
              refine H7.out _ _ ?_
              go_wp2_with (first
                | (go_at_call 14; refine (block_any _ _).mono ?_; rintro e w' ⟨rfl, rfl⟩)
                | (go_at_call 13; refine (rotl_any _ _ (by decide) _).mono ?_; rintro e w' ⟨rfl, rfl⟩))
              refine H8.out _ _ ?_
              go_wp2_with (first
                | (go_at_call 14; refine (block_any _ _).mono ?_; rintro e w' ⟨rfl, rfl⟩)
                | (go_at_call 13; refine (rotl_any _ _ (by decide) _).mono ?_; rintro e w' ⟨rfl, rfl⟩))
              refine H9.out _ _ ?_
              go_wp2_with (first
                | (go_at_call 14; refine (block_any _ _).mono ?_; rintro e w' ⟨rfl, rfl⟩)
                | (go_at_call 13; refine (rotl_any _ _ (by decide) _).mono ?_; rintro e w' ⟨rfl, rfl⟩))
              refine H10.out _ _ ?_
              go_wp2_with (first
                | (go_at_call 14; refine (block_any _ _).mono ?_; rintro e w' ⟨rfl, rfl⟩)
                | (go_at_call 13; refine (rotl_any _ _ (by decide) _).mono ?_; rintro e w' ⟨rfl, rfl⟩))
              refine H11.out _ _ ?_
              go_wp2_with (first
                | (go_at_call 14; refine (block_any _ _).mono ?_; rintro e w' ⟨rfl, rfl⟩)
                | (go_at_call 13; refine (rotl_any _ _ (by decide) _).mono ?_; rintro e w' ⟨rfl, rfl⟩))
              refine H12.out _ _ ?_
              go_wp2_with (first
                | (go_at_call 14; refine (block_any _ _).mono ?_; rintro e w' ⟨rfl, rfl⟩)
                | (go_at_call 13; refine (rotl_any _ _ (by decide) _).mono ?_; rintro e w' ⟨rfl, rfl⟩))
              refine H13.out _ _ ?_
              go_wp2_with (first
                | (go_at_call 14; refine (block_any _ _).mono ?_; rintro e w' ⟨rfl, rfl⟩)
                | (go_at_call 13; refine (rotl_any _ _ (by decide) _).mono ?_; rintro e w' ⟨rfl, rfl⟩))
              refine H14.out _ _ ?_
              go_wp2_with (first
                | (go_at_call 14; refine (block_any _ _).mono ?_; rintro e w' ⟨rfl, rfl⟩)
                | (go_at_call 13; refine (rotl_any _ _ (by decide) _).mono ?_; rintro e w' ⟨rfl, rfl⟩))
              refine H15.out _ _ ?_
              go_wp2_with (first
                | (go_at_call 14; refine (block_any _ _).mono ?_; rintro e w' ⟨rfl, rfl⟩)
                | (go_at_call 13; refine (rotl_any _ _ (by decide) _).mono ?_; rintro e w' ⟨rfl, rfl⟩))
              refine H16.out _ _ ?_
              go_wp2_with (first
                | (go_at_call 14; refine (block_any _ _).mono ?_; rintro e w' ⟨rfl, rfl⟩)
                | (go_at_call 13; refine (rotl_any _ _ (by decide) _).mono ?_; rintro e w' ⟨rfl, rfl⟩))
              refine H17.out _ _ ?_
              go_wp2_with (first
                | (go_at_call 14; refine (block_any _ _).mono ?_; rintro e w' ⟨rfl, rfl⟩)
                | (go_at_call 13; refine (rotl_any _ _ (by decide) _).mono ?_; rintro e w' ⟨rfl, rfl⟩))
              go_meet
              case rel => exact ⟨v_i64 (by rw [h1t_at d len k 12 HK.out Hr.out, if_pos (by decide), t1_12, e1]), v_i64 (by rw [h2t_at d len k 12 HK.out Hr.out, if_pos (by decide), t2_12, e2]), rfl⟩
          | 13, _ =>
            as_aux_lemma =>
              have c0 : w.cell? ⟨b, off + len / 16 * 16, none⟩ = some (.int .u8 (U8 (d (len / 16 * 16 + 0)))) := by have := HR.out (len / 16 * 16 + 0) (by have := Hr.out; omega); simpa [Nat.add_assoc] using this
              have z0 : ((len / 16 : Nat) : Int) * 16 + 0 < (len : Int) := by have := Hr.out; omega
              have c1 : w.cell? ⟨b, off + len / 16 * 16 + 1, none⟩ = some (.int .u8 (U8 (d (len / 16 * 16 + 1)))) := by have := HR.out (len / 16 * 16 + 1) (by have := Hr.out; omega); simpa [Nat.add_assoc] using this
              have z1 : ((len / 16 : Nat) : Int) * 16 + 1 < (len : Int) := by have := Hr.out; omega
              have c2 : w.cell? ⟨b, off + len / 16 * 16 + 2, none⟩ = some (.int .u8 (U8 (d (len / 16 * 16 + 2)))) := by have := HR.out (len / 16 * 16 + 2) (by have := Hr.out; omega); simpa [Nat.add_assoc] using this
              have z2 : ((len / 16 : Nat) : Int) * 16 + 2 < (len : Int) := by have := Hr.out; omega
              have c3 : w.cell? ⟨b, off + len / 16 * 16 + 3, none⟩ = some (.int .u8 (U8 (d (len / 16 * 16 + 3)))) := by have := HR.out (len / 16 * 16 + 3) (by have := Hr.out; omega); simpa [Nat.add_assoc] using this
              have z3 : ((len / 16 : Nat) : Int) * 16 + 3 < (len : Int) := by have := Hr.out; omega
              have c4 : w.cell? ⟨b, off + len / 16 * 16 + 4, none⟩ = some (.int .u8 (U8 (d (len / 16 * 16 + 4)))) := by have := HR.out (len / 16 * 16 + 4) (by have := Hr.out; omega); simpa [Nat.add_assoc] using this
              have z4 : ((len / 16 : Nat) : Int) * 16 + 4 < (len : Int) := by have := Hr.out; omega
              have c5 : w.cell? ⟨b, off + len / 16 * 16 + 5, none⟩ = some (.int .u8 (U8 (d (len / 16 * 16 + 5)))) := by have := HR.out (len / 16 * 16 + 5) (by have := Hr.out; omega); simpa [Nat.add_assoc] using this
              have z5 : ((len / 16 : Nat) : Int) * 16 + 5 < (len : Int) := by have := Hr.out; omega
              have c6 : w.cell? ⟨b, off + len / 16 * 16 + 6, none⟩ = some (.int .u8 (U8 (d (len / 16 * 16 + 6)))) := by have := HR.out (len / 16 * 16 + 6) (by have := Hr.out; omega); simpa [Nat.add_assoc] using this
              have z6 : ((len / 16 : Nat) : Int) * 16 + 6 < (len : Int) := by have := Hr.out; omega
              have c7 : w.cell? ⟨b, off + len / 16 * 16 + 7, none⟩ = some (.int .u8 (U8 (d (len / 16 * 16 + 7)))) := by have := HR.out (len / 16 * 16 + 7) (by have := Hr.out; omega); simpa [Nat.add_assoc] using this
              have z7 : ((len / 16 : Nat) : Int) * 16 + 7 < (len : Int) := by have := Hr.out; omega
              have c8 : w.cell? ⟨b, off + len / 16 * 16 + 8, none⟩ = some (.int .u8 (U8 (d (len / 16 * 16 + 8)))) := by have := HR.out (len / 16 * 16 + 8) (by have := Hr.out; omega); simpa [Nat.add_assoc] using this
              have z8 : ((len / 16 : Nat) : Int) * 16 + 8 < (len : Int) := by have := Hr.out; omega
              have c9 : w.cell? ⟨b, off + len / 16 * 16 + 9, none⟩ = some (.int .u8 (U8 (d (len / 16 * 16 + 9)))) := by have := HR.out (len / 16 * 16 + 9) (by have := Hr.out; omega); simpa [Nat.add_assoc] using this
              have z9 : ((len / 16 : Nat) : Int) * 16 + 9 < (len : Int) := by have := Hr.out; omega
              have c10 : w.cell? ⟨b, off + len / 16 * 16 + 10, none⟩ = some (.int .u8 (U8 (d (len / 16 * 16 + 10)))) := by have := HR.out (len / 16 * 16 + 10) (by have := Hr.out; omega); simpa [Nat.add_assoc] using this
              have z10 : ((len / 16 : Nat) : Int) * 16 + 10 < (len : Int) := by have := Hr.out; omega
              have c11 : w.cell? ⟨b, off + len / 16 * 16 + 11, none⟩ = some (.int .u8 (U8 (d (len / 16 * 16 + 11)))) := by have := HR.out (len / 16 * 16 + 11) (by have := Hr.out; omega); simpa [Nat.add_assoc] using this
              have z11 : ((len / 16 : Nat) : Int) * 16 + 11 < (len : Int) := by have := Hr.out; omega
              have c12 : w.cell? ⟨b, off + len / 16 * 16 + 12, none⟩ = some (.int .u8 (U8 (d (len / 16 * 16 + 12)))) := by have := HR.out (len / 16 * 16 + 12) (by have := Hr.out; omega); simpa [Nat.add_assoc] using this
              have z12 : ((len / 16 : Nat) : Int) * 16 + 12 < (len : Int) := by have := Hr.out; omega
              have q15 : ((len : Int) % 16 == 15) = false := by have := Hr.out; simp; omega
              have q14 : ((len : Int) % 16 == 14) = false := by have := Hr.out; simp; omega
              have q13 : ((len : Int) % 16 == 13) = true := by have := Hr.out; simp; omega
              refine wp_seq_k (fun KX hKX => ?_)
              have HX := Lib.hid hKX
              clear hKX
              refine wp_seq_k (fun KT hKT => ?_)
              have HT := Lib.hid hKT
              clear hKT
              go_wp2_with fail
              refine HT.out _ _ ?_
              clear HT
              refine wp_seq_k (fun KT hKT => ?_)
              have HT := Lib.hid hKT
              clear hKT
              go_wp2_with fail
              refine HT.out _ _ ?_
              clear HT
              refine wp_seq_k (fun KT hKT => ?_)
              have HT := Lib.hid hKT
              clear hKT
              refine wp_mono (Q := ExitIn 5 K5) ?_ (fun _ _ _ h => by obtain ⟨rfl, h⟩ := h; exact h)
              go_wp2_with fail
              refine ⟨rfl, ?_⟩
              refine H5.out _ _ ?_
              go_wp2_with (first
                | (go_at_call 14; refine (block_any _ _).mono ?_; rintro e w' ⟨rfl, rfl⟩)
                | (go_at_call 13; refine (rotl_any _ _ (by decide) _).mono ?_; rintro e w' ⟨rfl, rfl⟩))
              refine H6.out _ _ ?_
              go_wp2_with (first
                | (go_at_call 14; refine (block_any _ _).mono ?_; rintro e w' ⟨rfl, rfl⟩)
                | (go_at_call 13; refine (rotl_any _ _ (by decide) _).mono ?_; rintro e w' ⟨rfl, rfl⟩))
              refine H7.out _ _ ?_
              go_wp2_with (first
                | (go_at_call 14; refine (block_any _ _).mono ?_; rintro e w' ⟨rfl, rfl⟩)
                | (go_at_call 13; refine (rotl_any _ _ (by decide) _).mono ?_; rintro e w' ⟨rfl, rfl⟩))
              refine H8.out _ _ ?_
              go_wp2_with (first
                | (go_at_call 14; refine (block_any _ _).mono ?_; rintro e w' ⟨rfl, rfl⟩)
                | (go_at_call 13; refine (rotl_any _ _ (by decide) _).mono ?_; rintro e w' ⟨rfl, rfl⟩))
              refine H9.out _ _ ?_
              go_wp2_with (first
                | (go_at_call 14; refine (block_any _ _).mono ?_; rintro e w' ⟨rfl, rfl⟩)
                | (go_at_call 13; refine (rotl_any _ _ (by decide) _).mono ?_; rintro e w' ⟨rfl, rfl⟩))
              refine H10.out _ _ ?_
              go_wp2_with (first
                | (go_at_call 14; refine (block_any _ _).mono ?_; rintro e w' ⟨rfl, rfl⟩)
                | (go_at_call 13; refine (rotl_any _ _ (by decide) _).mono ?_; rintro e w' ⟨rfl, rfl⟩))
              refine H11.out _ _ ?_
              go_wp2_with (first
                | (go_at_call 14; refine (block_any _ _).mono ?_; rintro e w' ⟨rfl, rfl⟩)
                | (go_at_call 13; refine (rotl_any _ _ (by decide) _).mono ?_; rintro e w' ⟨rfl, rfl⟩))
              refine H12.out _ _ ?_
              go_wp2_with (first
                | (go_at_call 14; refine (block_any _ _).mono ?_; rintro e w' ⟨rfl, rfl⟩)
                | (go_at_call 13; refine (rotl_any _ _ (by decide) _).mono ?_; rintro e w' ⟨rfl, rfl⟩))
              refine H13.out _ _ ?_
              go_wp2_with (first
                | (go_at_call 14; refine (block_any _ _).mono ?_; rintro e w' ⟨rfl, rfl⟩)
                | (go_at_call 13; refine (rotl_any _ _ (by decide) _).mono ?_; rintro e w' ⟨rfl, rfl⟩))
              refine H14.out _ _ ?_
              go_wp2_with (first
                | (go_at_call 14; refine (block_any _ _).mono ?_; rintro e w' ⟨rfl, rfl⟩)
                | (go_at_call 13; refine (rotl_any _ _ (by decide) _).mono ?_; rintro e w' ⟨rfl, rfl⟩))
              refine H15.out _ _ ?_
              go_wp2_with (first
                | (go_at_call 14; refine (block_any _ _).mono ?_; rintro e w' ⟨rfl, rfl⟩)
                | (go_at_call 13; refine (rotl_any _ _ (by decide) _).mono ?_; rintro e w' ⟨rfl, rfl⟩))
              refine H16.out _ _ ?_
              go_wp2_with (first
                | (go_at_call 14; refine (block_any _ _).mono ?_; rintro e w' ⟨rfl, rfl⟩)
                | (go_at_call 13; refine (rotl_any _ _ (by decide) _).mono ?_; rintro e w' ⟨rfl, rfl⟩))
              refine H17.out _ _ ?_
              go_wp2_with (first
                | (go_at_call 14; refine (block_any _ _).mono ?_; rintro e w' ⟨rfl, rfl⟩)
                | (go_at_call 13; refine (rotl_any _ _ (by decide) _).mono ?_; rintro e w' ⟨rfl, rfl⟩))
              go_meet
              case rel => exact ⟨v_i64 (by rw [h1t_at d len k 13 HK.out Hr.out, if_pos (by decide), t1_13, e1]), v_i64 (by rw [h2t_at d len k 13 HK.out Hr.out, if_pos (by decide), t2_13, e2]), rfl⟩
          | 14, _ =>
            as_aux_lemma =>
              have c0 : w.cell? ⟨b, off + len / 16 * 16, none⟩ = some (.int .u8 (U8 (d (len / 16 * 16 + 0)))) := by have := HR.out (len / 16 * 16 + 0) (by have := Hr.out; omega); simpa [Nat.add_assoc] using this
              have z0 : ((len / 16 : Nat) : Int) * 16 + 0 < (len : Int) := by have := Hr.out; omega
              have c1 : w.cell? ⟨b, off + len / 16 * 16 + 1, none⟩ = some (.int .u8 (U8 (d (len / 16 * 16 + 1)))) := by have := HR.out (len / 16 * 16 + 1) (by have := Hr.out; omega); simpa [Nat.add_assoc] using this
              have z1 : ((len / 16 : Nat) : Int) * 16 + 1 < (len : Int) := by have := Hr.out; omega
              have c2 : w.cell? ⟨b, off + len / 16 * 16 + 2, none⟩ = some (.int .u8 (U8 (d (len / 16 * 16 + 2)))) := by have := HR.out (len / 16 * 16 + 2) (by have := Hr.out; omega); simpa [Nat.add_assoc] using this
              have z2 : ((len / 16 : Nat) : Int) * 16 + 2 < (len : Int) := by have := Hr.out; omega
              have c3 : w.cell? ⟨b, off + len / 16 * 16 + 3, none⟩ = some (.int .u8 (U8 (d (len / 16 * 16 + 3)))) := by have := HR.out (len / 16 * 16 + 3) (by have := Hr.out; omega); simpa [Nat.add_assoc] using this
              have z3 : ((len / 16 : Nat) : Int) * 16 + 3 < (len : Int) := by have := Hr.out; omega
              have c4 : w.cell? ⟨b, off + len / 16 * 16 + 4, none⟩ = some (.int .u8 (U8 (d (len / 16 * 16 + 4)))) := by have := HR.out (len / 16 * 16 + 4) (by have := Hr.out; omega); simpa [Nat.add_assoc] using this
              have z4 : ((len / 16 : Nat) : Int) * 16 + 4 < (len : Int) := by have := Hr.out; omega
              have c5 : w.cell? ⟨b, off + len / 16 * 16 + 5, none⟩ = some (.int .u8 (U8 (d (len / 16 * 16 + 5)))) := by have := HR.out (len / 16 * 16 + 5) (by have := Hr.out; omega); simpa [Nat.add_assoc] using this
              have z5 : ((len / 16 : Nat) : Int) * 16 + 5 < (len : Int) := by have := Hr.out; omega
              have c6 : w.cell? ⟨b, off + len / 16 * 16 + 6, none⟩ = some (.int .u8 (U8 (d (len / 16 * 16 + 6)))) := by have := HR.out (len / 16 * 16 + 6) (by have := Hr.out; omega); simpa [Nat.add_assoc] using this
              have z6 : ((len / 16 : Nat) : Int) * 16 + 6 < (len : Int) := by have := Hr.out; omega
              have c7 : w.cell? ⟨b, off + len / 16 * 16 + 7, none⟩ = some (.int .u8 (U8 (d (len / 16 * 16 + 7)))) := by have := HR.out (len / 16 * 16 + 7) (by have := Hr.out; omega); simpa [Nat.add_assoc] using this
              have z7 : ((len / 16 : Nat) : Int) * 16 + 7 < (len : Int) := by have := Hr.out; omega
              have c8 : w.cell? ⟨b, off + len / 16 * 16 + 8, none⟩ = some (.int .u8 (U8 (d (len / 16 * 16 + 8)))) := by have := HR.out (len / 16 * 16 + 8) (by have := Hr.out; omega); simpa [Nat.add_assoc] using this
              have z8 : ((len / 16 : Nat) : Int) * 16 + 8 < (len : Int) := by have := Hr.out; omega
              have c9 : w.cell? ⟨b, off + len / 16 * 16 + 9, none⟩ = some (.int .u8 (U8 (d (len / 16 * 16 + 9)))) := by have := HR.out (len / 16 * 16 + 9) (by have := Hr.out; omega); simpa [Nat.add_assoc] using this
              have z9 : ((len / 16 : Nat) : Int) * 16 + 9 < (len : Int) := by have := Hr.out; omega
              have c10 : w.cell? ⟨b, off + len / 16 * 16 + 10, none⟩ = some (.int .u8 (U8 (d (len / 16 * 16 + 10)))) := by have := HR.out (len / 16 * 16 + 10) (by have := Hr.out; omega); simpa [Nat.add_assoc] using this
              have z10 : ((len / 16 : Nat) : Int) * 16 + 10 < (len : Int) := by have := Hr.out; omega
              have c11 : w.cell? ⟨b, off + len / 16 * 16 + 11, none⟩ = some (.int .u8 (U8 (d (len / 16 * 16 + 11)))) := by have := HR.out (len / 16 * 16 + 11) (by have := Hr.out; omega); simpa [Nat.add_assoc] using this
              have z11 : ((len / 16 : Nat) : Int) * 16 + 11 < (len : Int) := by have := Hr.out; omega
              have c12 : w.cell? ⟨b, off + len / 16 * 16 + 12, none⟩ = some (.int .u8 (U8 (d (len / 16 * 16 + 12)))) := by have := HR.out (len / 16 * 16 + 12) (by have := Hr.out; omega); simpa [Nat.add_assoc] using this
              have z12 : ((len / 16 : Nat) : Int) * 16 + 12 < (len : Int) := by have := Hr.out; omega
              have c13 : w.cell? ⟨b, off + len / 16 * 16 + 13, none⟩ = some (.int .u8 (U8 (d (len / 16 * 16 + 13)))) := by have := HR.out (len / 16 * 16 + 13) (by have := Hr.out; omega); simpa [Nat.add_assoc] using this
              have z13 : ((len / 16 : Nat) : Int) * 16 + 13 < (len : Int) := by have := Hr.out; omega
              have q15 : ((len : Int) % 16 == 15) = false := by have := Hr.out; simp; omega
              have q14 : ((len : Int) % 16 == 14) = true := by have := Hr.out; simp; omega
              refine wp_seq_k (fun KX hKX => ?_)
              have HX := Lib.hid hKX
              clear hKX
              refine wp_seq_k (fun KT hKT => ?_)
              have HT := Lib.hid hKT
              clear hKT
              go_wp2_with fail
              refine HT.out _ _ ?_
              clear HT
              refine wp_seq_k (fun KT hKT => ?_)
              have HT := Lib.hid hKT
              clear hKT
              refine wp_mono (Q := ExitIn 4 K4) ?_ (fun _ _ _ h => by obtain ⟨rfl, h⟩ := h; exact h)
              go_wp2_with fail
              refine ⟨rfl, ?_⟩
              refine H4.out _ _ ?_
              go_wp2_with (first
                | (go_at_call 14; refine (block_any _ _).mono ?_; rintro e w' ⟨rfl, rfl⟩)
                | (go_at_call 13; refine (rotl_any _ _ (by decide) _).mono ?_; rintro e w' ⟨rfl, rfl⟩))
              refine H5.out _ _ ?_
              go_wp2_with (first
                | (go_at_call 14; refine (block_any _ _).mono ?_; rintro e w' ⟨rfl, rfl⟩)
                | (go_at_call 13; refine (rotl_any _ _ (by decide) _).mono ?_; rintro e w' ⟨rfl, rfl⟩))
              refine H6.out _ _ ?_
              go_wp2_with (first
                | (go_at_call 14; refine (block_any _ _).mono ?_; rintro e w' ⟨rfl, rfl⟩)
                | (go_at_call 13; refine (rotl_any _ _ (by decide) _).mono ?_; rintro e w' ⟨rfl, rfl⟩))
              refine H7.out _ _ ?_
              go_wp2_with (first
                | (go_at_call 14; refine (block_any _ _).mono ?_; rintro e w' ⟨rfl, rfl⟩)
                | (go_at_call 13; refine (rotl_any _ _ (by decide) _).mono ?_; rintro e w' ⟨rfl, rfl⟩))
              refine H8.out _ _ ?_
              go_wp2_with (first
                | (go_at_call 14; refine (block_any _ _).mono ?_; rintro e w' ⟨rfl, rfl⟩)
                | (go_at_call 13; refine (rotl_any _ _ (by decide) _).mono ?_; rintro e w' ⟨rfl, rfl⟩))
              refine H9.out _ _ ?_
              go_wp2_with (first
                | (go_at_call 14; refine (block_any _ _).mono ?_; rintro e w' ⟨rfl, rfl⟩)
                | (go_at_call 13; refine (rotl_any _ _ (by decide) _).mono ?_; rintro e w' ⟨rfl, rfl⟩))
              refine H10.out _ _ ?_
              go_wp2_with (first
                | (go_at_call 14; refine (block_any _ _).mono ?_; rintro e w' ⟨rfl, rfl⟩)
                | (go_at_call 13; refine (rotl_any _ _ (by decide) _).mono ?_; rintro e w' ⟨rfl, rfl⟩))
              refine H11.out _ _ ?_
              go_wp2_with (first
                | (go_at_call 14; refine (block_any _ _).mono ?_; rintro e w' ⟨rfl, rfl⟩)
                | (go_at_call 13; refine (rotl_any _ _ (by decide) _).mono ?_; rintro e w' ⟨rfl, rfl⟩))
              refine H12.out _ _ ?_
              go_wp2_with (first
                | (go_at_call 14; refine (block_any _ _).mono ?_; rintro e w' ⟨rfl, rfl⟩)
                | (go_at_call 13; refine (rotl_any _ _ (by decide) _).mono ?_; rintro e w' ⟨rfl, rfl⟩))
              refine H13.out _ _ ?_
              go_wp2_with (first
                | (go_at_call 14; refine (block_any _ _).mono ?_; rintro e w' ⟨rfl, rfl⟩)
                | (go_at_call 13; refine (rotl_any _ _ (by decide) _).mono ?_; rintro e w' ⟨rfl, rfl⟩))
              refine H14.out _ _ ?_
              go_wp2_with (first
                | (go_at_call 14; refine (block_any _ _).mono ?_; rintro e w' ⟨rfl, rfl⟩)
                | (go_at_call 13; refine (rotl_any _ _ (by decide) _).mono ?_; rintro e w' ⟨rfl, rfl⟩))
              refine H15.out _ _ ?_
              go_wp2_with (first
                | (go_at_call 14; refine (block_any _ _).mono ?_; rintro e w' ⟨rfl, rfl⟩)
                | (go_at_call 13; refine (rotl_any _ _ (by decide) _).mono ?_; rintro e w' ⟨rfl, rfl⟩))
              refine H16.out _ _ ?_
              go_wp2_with (first
                | (go_at_call 14; refine (block_any _ _).mono ?_; rintro e w' ⟨rfl, rfl⟩)
                | (go_at_call 13; refine (rotl_any _ _ (by decide) _).mono ?_; rintro e w' ⟨rfl, rfl⟩))
              refine H17.out _ _ ?_
              go_wp2_with (first
                | (go_at_call 14; refine (block_any _ _).mono ?_; rintro e w' ⟨rfl, rfl⟩)
                | (go_at_call 13; refine (rotl_any _ _ (by decide) _).mono ?_; rintro e w' ⟨rfl, rfl⟩))
              go_meet
              case rel => exact ⟨v_i64 (by rw [h1t_at d len k 14 HK.out Hr.out, if_pos (by decide), t1_14, e1]), v_i64 (by rw [h2t_at d len k 14 HK.out Hr.out, if_pos (by decide), t2_14, e2]), rfl⟩
          | 15, _ =>
            as_aux_lemma =>
              have c0 : w.cell? ⟨b, off + len / 16 * 16, none⟩ = some (.int .u8 (U8 (d (len / 16 * 16 + 0)))) := by have := HR.out (len / 16 * 16 + 0) (by have := Hr.out; omega); simpa [Nat.add_assoc] using this
              have z0 : ((len / 16 : Nat) : Int) * 16 + 0 < (len : Int) := by have := Hr.out; omega
              have c1 : w.cell? ⟨b, off + len / 16 * 16 + 1, none⟩ = some (.int .u8 (U8 (d (len / 16 * 16 + 1)))) := by have := HR.out (len / 16 * 16 + 1) (by have := Hr.out; omega); simpa [Nat.add_assoc] using this
              have z1 : ((len / 16 : Nat) : Int) * 16 + 1 < (len : Int) := by have := Hr.out; omega
              have c2 : w.cell? ⟨b, off + len / 16 * 16 + 2, none⟩ = some (.int .u8 (U8 (d (len / 16 * 16 + 2)))) := by have := HR.out (len / 16 * 16 + 2) (by have := Hr.out; omega); simpa [Nat.add_assoc] using this
              have z2 : ((len / 16 : Nat) : Int) * 16 + 2 < (len : Int) := by have := Hr.out; omega
              have c3 : w.cell? ⟨b, off + len / 16 * 16 + 3, none⟩ = some (.int .u8 (U8 (d (len / 16 * 16 + 3)))) := by have := HR.out (len / 16 * 16 + 3) (by have := Hr.out; omega); simpa [Nat.add_assoc] using this
              have z3 : ((len / 16 : Nat) : Int) * 16 + 3 < (len : Int) := by have := Hr.out; omega
              have c4 : w.cell? ⟨b, off + len / 16 * 16 + 4, none⟩ = some (.int .u8 (U8 (d (len / 16 * 16 + 4)))) := by have := HR.out (len / 16 * 16 + 4) (by have := Hr.out; omega); simpa [Nat.add_assoc] using this
              have z4 : ((len / 16 : Nat) : Int) * 16 + 4 < (len : Int) := by have := Hr.out; omega
              have c5 : w.cell? ⟨b, off + len / 16 * 16 + 5, none⟩ = some (.int .u8 (U8 (d (len / 16 * 16 + 5)))) := by have := HR.out (len / 16 * 16 + 5) (by have := Hr.out; omega); simpa [Nat.add_assoc] using this
              have z5 : ((len / 16 : Nat) : Int) * 16 + 5 < (len : Int) := by have := Hr.out; omega
              have c6 : w.cell? ⟨b, off + len / 16 * 16 + 6, none⟩ = some (.int .u8 (U8 (d (len / 16 * 16 + 6)))) := by have := HR.out (len / 16 * 16 + 6) (by have := Hr.out; omega); simpa [Nat.add_assoc] using this
              have z6 : ((len / 16 : Nat) : Int) * 16 + 6 < (len : Int) := by have := Hr.out; omega
              have c7 : w.cell? ⟨b, off + len / 16 * 16 + 7, none⟩ = some (.int .u8 (U8 (d (len / 16 * 16 + 7)))) := by have := HR.out (len / 16 * 16 + 7) (by have := Hr.out; omega); simpa [Nat.add_assoc] using this
              have z7 : ((len / 16 : Nat) : Int) * 16 + 7 < (len : Int) := by have := Hr.out; omega
              have c8 : w.cell? ⟨b, off + len / 16 * 16 + 8, none⟩ = some (.int .u8 (U8 (d (len / 16 * 16 + 8)))) := by have := HR.out (len / 16 * 16 + 8) (by have := Hr.out; omega); simpa [Nat.add_assoc] using this
              have z8 : ((len / 16 : Nat) : Int) * 16 + 8 < (len : Int) := by have := Hr.out; omega
              have c9 : w.cell? ⟨b, off + len / 16 * 16 + 9, none⟩ = some (.int .u8 (U8 (d (len / 16 * 16 + 9)))) := by have := HR.out (len / 16 * 16 + 9) (by have := Hr.out; omega); simpa [Nat.add_assoc] using this
              have z9 : ((len / 16 : Nat) : Int) * 16 + 9 < (len : Int) := by have := Hr.out; omega
              have c10 : w.cell? ⟨b, off + len / 16 * 16 + 10, none⟩ = some (.int .u8 (U8 (d (len / 16 * 16 + 10)))) := by have := HR.out (len / 16 * 16 + 10) (by have := Hr.out; omega); simpa [Nat.add_assoc] using this
              have z10 : ((len / 16 : Nat) : Int) * 16 + 10 < (len : Int) := by have := Hr.out; omega
              have c11 : w.cell? ⟨b, off + len / 16 * 16 + 11, none⟩ = some (.int .u8 (U8 (d (len / 16 * 16 + 11)))) := by have := HR.out (len / 16 * 16 + 11) (by have := Hr.out; omega); simpa [Nat.add_assoc] using this
              have z11 : ((len / 16 : Nat) : Int) * 16 + 11 < (len : Int) := by have := Hr.out; omega
              have c12 : w.cell? ⟨b, off + len / 16 * 16 + 12, none⟩ = some (.int .u8 (U8 (d (len / 16 * 16 + 12)))) := by have := HR.out (len / 16 * 16 + 12) (by have := Hr.out; omega); simpa [Nat.add_assoc] using this
              have z12 : ((len / 16 : Nat) : Int) * 16 + 12 < (len : Int) := by have := Hr.out; omega
              have c13 : w.cell? ⟨b, off + len / 16 * 16 + 13, none⟩ = some (.int .u8 (U8 (d (len / 16 * 16 + 13)))) := by have := HR.out (len / 16 * 16 + 13) (by have := Hr.out; omega); simpa [Nat.add_assoc] using this
              have z13 : ((len / 16 : Nat) : Int) * 16 + 13 < (len : Int) := by have := Hr.out; omega
              have c14 : w.cell? ⟨b, off + len / 16 * 16 + 14, none⟩ = some (.int .u8 (U8 (d (len / 16 * 16 + 14)))) := by have := HR.out (len / 16 * 16 + 14) (by have := Hr.out; omega); simpa [Nat.add_assoc] using this
              have z14 : ((len / 16 : Nat) : Int) * 16 + 14 < (len : Int) := by have := Hr.out; omega
              have q15 : ((len : Int) % 16 == 15) = true := by have := Hr.out; simp; omega
              refine wp_seq_k (fun KX hKX => ?_)
              have HX := Lib.hid hKX
              clear hKX
              refine wp_seq_k (fun KT hKT => ?_)
              have HT := Lib.hid hKT
              clear hKT
              refine wp_mono (Q := ExitIn 3 K3) ?_ (fun _ _ _ h => by obtain ⟨rfl, h⟩ := h; exact h)
              go_wp2_with fail
              refine ⟨rfl, ?_⟩
              refine H3.out _ _ ?_
              go_wp2_with (first
                | (go_at_call 14; refine (block_any _ _).mono ?_; rintro e w' ⟨rfl, rfl⟩)
                | (go_at_call 13; refine (rotl_any _ _ (by decide) _).mono ?_; rintro e w' ⟨rfl, rfl⟩))
              refine H4.out _ _ ?_
              go_wp2_with (first
                | (go_at_call 14; refine (block_any _ _).mono ?_; rintro e w' ⟨rfl, rfl⟩)
                | (go_at_call 13; refine (rotl_any _ _ (by decide) _).mono ?_; rintro e w' ⟨rfl, rfl⟩))
              refine H5.out _ _ ?_
              go_wp2_with (first
                | (go_at_call 14; refine (block_any _ _).mono ?_; rintro e w' ⟨rfl, rfl⟩)
                | (go_at_call 13; refine (rotl_any _ _ (by decide) _).mono ?_; rintro e w' ⟨rfl, rfl⟩))
              refine H6.out _ _ ?_
              go_wp2_with (first
                | (go_at_call 14; refine (block_any _ _).mono ?_; rintro e w' ⟨rfl, rfl⟩)
                | (go_at_call 13; refine (rotl_any _ _ (by decide) _).mono ?_; rintro e w' ⟨rfl, rfl⟩))
              refine H7.out _ _ ?_
              go_wp2_with (first
                | (go_at_call 14; refine (block_any _ _).mono ?_; rintro e w' ⟨rfl, rfl⟩)
                | (go_at_call 13; refine (rotl_any _ _ (by decide) _).mono ?_; rintro e w' ⟨rfl, rfl⟩))
              refine H8.out _ _ ?_
              go_wp2_with (first
                | (go_at_call 14; refine (block_any _ _).mono ?_; rintro e w' ⟨rfl, rfl⟩)
                | (go_at_call 13; refine (rotl_any _ _ (by decide) _).mono ?_; rintro e w' ⟨rfl, rfl⟩))
              refine H9.out _ _ ?_
              go_wp2_with (first
                | (go_at_call 14; refine (block_any _ _).mono ?_; rintro e w' ⟨rfl, rfl⟩)
                | (go_at_call 13; refine (rotl_any _ _ (by decide) _).mono ?_; rintro e w' ⟨rfl, rfl⟩))
              refine H10.out _ _ ?_
              go_wp2_with (first
                | (go_at_call 14; refine (block_any _ _).mono ?_; rintro e w' ⟨rfl, rfl⟩)
                | (go_at_call 13; refine (rotl_any _ _ (by decide) _).mono ?_; rintro e w' ⟨rfl, rfl⟩))
              refine H11.out _ _ ?_
              go_wp2_with (first
                | (go_at_call 14; refine (block_any _ _).mono ?_; rintro e w' ⟨rfl, rfl⟩)
                | (go_at_call 13; refine (rotl_any _ _ (by decide) _).mono ?_; rintro e w' ⟨rfl, rfl⟩))
              refine H12.out _ _ ?_
              go_wp2_with (first
                | (go_at_call 14; refine (block_any _ _).mono ?_; rintro e w' ⟨rfl, rfl⟩)
                | (go_at_call 13; refine (rotl_any _ _ (by decide) _).mono ?_; rintro e w' ⟨rfl, rfl⟩))
              refine H13.out _ _ ?_
              go_wp2_with (first
                | (go_at_call 14; refine (block_any _ _).mono ?_; rintro e w' ⟨rfl, rfl⟩)
                | (go_at_call 13; refine (rotl_any _ _ (by decide) _).mono ?_; rintro e w' ⟨rfl, rfl⟩))
              refine H14.out _ _ ?_
              go_wp2_with (first
                | (go_at_call 14; refine (block_any _ _).mono ?_; rintro e w' ⟨rfl, rfl⟩)
                | (go_at_call 13; refine (rotl_any _ _ (by decide) _).mono ?_; rintro e w' ⟨rfl, rfl⟩))
              refine H15.out _ _ ?_
              go_wp2_with (first
                | (go_at_call 14; refine (block_any _ _).mono ?_; rintro e w' ⟨rfl, rfl⟩)
                | (go_at_call 13; refine (rotl_any _ _ (by decide) _).mono ?_; rintro e w' ⟨rfl, rfl⟩))
              refine H16.out _ _ ?_
              go_wp2_with (first
                | (go_at_call 14; refine (block_any _ _).mono ?_; rintro e w' ⟨rfl, rfl⟩)
                | (go_at_call 13; refine (rotl_any _ _ (by decide) _).mono ?_; rintro e w' ⟨rfl, rfl⟩))
              refine H17.out _ _ ?_
              go_wp2_with (first
                | (go_at_call 14; refine (block_any _ _).mono ?_; rintro e w' ⟨rfl, rfl⟩)
                | (go_at_call 13; refine (rotl_any _ _ (by decide) _).mono ?_; rintro e w' ⟨rfl, rfl⟩))
              go_meet
              case rel => exact ⟨v_i64 (by rw [h1t_at d len k 15 HK.out Hr.out, if_pos (by decide), t1_15, e1]), v_i64 (by rw [h2t_at d len k 15 HK.out Hr.out, if_pos (by decide), t2_15, e2]), rfl⟩
          | r + 16, h => exact absurd h (by omega)
        case rest =>
          as_aux_lemma =>
          obtain ⟨rfl, rfl, rfl⟩ := hcut
          go_wp2_with (go_at_call 15; refine (fmix_any _ _).mono ?_; rintro e w' ⟨rfl, rfl⟩)
          go_ret
          exact ⟨ret_int (by rw [s_iadd, s_ofI, mur, fin_eq]), rfl⟩
      · have hcl : len = cap := by omega
        have h0 : len % 16 = 0 := by omega
        have he : (len : Int) ≤ ((len / 16 : Nat) : Int) * 16 := by omega
        subst hcl
        have Hr := Lib.hid h0
        clear h0
        go_upto_block 2 with (fail)
        go_cut [4, 5, 6, 7] (fun s4 s5 _ _ wx => s4 = .int .i64 (I64 (h1t d len)) ∧ s5 = .int .i64 (I64 (h2t d len)) ∧ w = wx)
        case first =>
          refine wp_block ?_
          refine wp_seq_k (fun K17 hK17 => ?_)
          have H17 := Lib.hid hK17
          clear hK17
          refine wp_block ?_
          refine wp_seq_k (fun K16 hK16 => ?_)
          have H16 := Lib.hid hK16
          clear hK16
          refine wp_block ?_
          refine wp_seq_k (fun K15 hK15 => ?_)
          have H15 := Lib.hid hK15
          clear hK15
          refine wp_block ?_
          refine wp_seq_k (fun K14 hK14 => ?_)
          have H14 := Lib.hid hK14
          clear hK14
          refine wp_block ?_
          refine wp_seq_k (fun K13 hK13 => ?_)
          have H13 := Lib.hid hK13
          clear hK13
          refine wp_block ?_
          refine wp_seq_k (fun K12 hK12 => ?_)
          have H12 := Lib.hid hK12
          clear hK12
          refine wp_block ?_
          refine wp_seq_k (fun K11 hK11 => ?_)
          have H11 := Lib.hid hK11
          clear hK11
          refine wp_block ?_
          refine wp_seq_k (fun K10 hK10 => ?_)
          have H10 := Lib.hid hK10
          clear hK10
          refine wp_block ?_
          refine wp_seq_k (fun K9 hK9 => ?_)
          have H9 := Lib.hid hK9
          clear hK9
          refine wp_block ?_
          refine wp_seq_k (fun K8 hK8 => ?_)
          have H8 := Lib.hid hK8
          clear hK8
          refine wp_block ?_
          refine wp_seq_k (fun K7 hK7 => ?_)
          have H7 := Lib.hid hK7
          clear hK7
          refine wp_block ?_
          refine wp_seq_k (fun K6 hK6 => ?_)
          have H6 := Lib.hid hK6
          clear hK6
          refine wp_block ?_
          refine wp_seq_k (fun K5 hK5 => ?_)
          have H5 := Lib.hid hK5
          clear hK5
          refine wp_block ?_
          refine wp_seq_k (fun K4 hK4 => ?_)
          have H4 := Lib.hid hK4
          clear hK4
          refine wp_block ?_
          refine wp_seq_k (fun K3 hK3 => ?_)
          have H3 := Lib.hid hK3
          clear hK3
          refine wp_block ?_
          have q15 : ((len : Int) % 16 == 15) = false := by have := Hr.out; simp; omega
          have q14 : ((len : Int) % 16 == 14) = false := by have := Hr.out; simp; omega
          have q13 : ((len : Int) % 16 == 13) = false := by have := Hr.out; simp; omega
          have q12 : ((len : Int) % 16 == 12) = false := by have := Hr.out; simp; omega
          have q11 : ((len : Int) % 16 == 11) = false := by have := Hr.out; simp; omega
          have q10 : ((len : Int) % 16 == 10) = false := by have := Hr.out; simp; omega
          have q9 : ((len : Int) % 16 == 9) = false := by have := Hr.out; simp; omega
          have q8 : ((len : Int) % 16 == 8) = false := by have := Hr.out; simp; omega
          have q7 : ((len : Int) % 16 == 7) = false := by have := Hr.out; simp; omega
          have q6 : ((len : Int) % 16 == 6) = false := by have := Hr.out; simp; omega
          have q5 : ((len : Int) % 16 == 5) = false := by have := Hr.out; simp; omega
          have q4 : ((len : Int) % 16 == 4) = false := by have := Hr.out; simp; omega
          have q3 : ((len : Int) % 16 == 3) = false := by have := Hr.out; simp; omega
          have q2 : ((len : Int) % 16 == 2) = false := by have := Hr.out; simp; omega
          have q1 : ((len : Int) % 16 == 1) = false := by have := Hr.out; simp; omega
          refine wp_seq_k (fun KX hKX => ?_)
          have HX := Lib.hid hKX
          clear hKX
          refine wp_seq_k (fun KT hKT => ?_)
          have HT := Lib.hid hKT
          clear hKT
          go_wp2_with fail
          refine HT.out _ _ ?_
          clear HT
          refine wp_seq_k (fun KT hKT => ?_)
          have HT := Lib.hid hKT
          clear hKT
          go_wp2_with fail
          refine HT.out _ _ ?_
          clear HT
          refine wp_seq_k (fun KT hKT => ?_)
          have HT := Lib.hid hKT
          clear hKT
          go_wp2_with fail
          refine HT.out _ _ ?_
          clear HT
          refine wp_seq_k (fun KT hKT => ?_)
          have HT := Lib.hid hKT
          clear hKT
          go_wp2_with fail
          refine HT.out _ _ ?_
          clear HT
          refine wp_seq_k (fun KT hKT => ?_)
          have HT := Lib.hid hKT
          clear hKT
          go_wp2_with fail
          refine HT.out _ _ ?_
          clear HT
          refine wp_seq_k (fun KT hKT => ?_)
          have HT := Lib.hid hKT
          clear hKT
          go_wp2_with fail
          refine HT.out _ _ ?_
          clear HT
          refine wp_seq_k (fun KT hKT => ?_)
          have HT := Lib.hid hKT
          clear hKT
          go_wp2_with fail
          refine HT.out _ _ ?_
          clear HT
          refine wp_seq_k (fun KT hKT => ?_)
          have HT := Lib.hid hKT
          clear hKT
          go_wp2_with fail
          refine HT.out _ _ ?_
          clear HT
          refine wp_seq_k (fun KT hKT => ?_)
          have HT := Lib.hid hKT
          clear hKT
          go_wp2_with fail
          refine HT.out _ _ ?_
          clear HT
          refine wp_seq_k (fun KT hKT => ?_)
          have HT := Lib.hid hKT
          clear hKT
          go_wp2_with fail
          refine HT.out _ _ ?_
          clear HT
          refine wp_seq_k (fun KT hKT => ?_)
          have HT := Lib.hid hKT
          clear hKT
          go_wp2_with fail
          refine HT.out _ _ ?_
          clear HT
          refine wp_seq_k (fun KT hKT => ?_)
          have HT := Lib.hid hKT
          clear hKT
          go_wp2_with fail
          refine HT.out _ _ ?_
          clear HT
          refine wp_seq_k (fun KT hKT => ?_)
          have HT := Lib.hid hKT
          clear hKT
          go_wp2_with fail
          refine HT.out _ _ ?_
          clear HT
          refine wp_seq_k (fun KT hKT => ?_)
          have HT := Lib.hid hKT
          clear hKT
          go_wp2_with fail
          refine HT.out _ _ ?_
          clear HT
          go_wp2_with fail
          refine HX.out _ _ ?_
          refine wp_exit ?_
          show Met _ _ _
          unfold Met
          go_wp2_with fail
          go_meet
          case rel => exact ⟨v_i64 (by rw [h1t_at d len k 0 HK.out Hr.out, if_neg (by decide)]), v_i64 (by rw [h2t_at d len k 0 HK.out Hr.out, if_neg (by decide)]), rfl⟩
        case rest =>
          as_aux_lemma =>
          obtain ⟨rfl, rfl, rfl⟩ := hcut
          go_wp2_with (go_at_call 15; refine (fmix_any _ _).mono ?_; rintro e w' ⟨rfl, rfl⟩)
          go_ret
          exact ⟨ret_int (by rw [s_iadd, s_ofI, mur, fin_eq]), rfl⟩
end Go.Proofs.YtcbpglkbeaebpaaGreat
