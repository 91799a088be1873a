/- More plain laws for the tail of Murmur3. No condition. -/
import Derived.Test.YtcbpglkbeaebpaaGreatBv
namespace Go.Proofs.YtcbpglkbeaebpaaGreat
open Go.RowKit

theorem s_pow (n : Nat) : BitVec.ofInt 64 ((2 : Int) ^ n) = BitVec.ofNat 64 (2 ^ n) := by
  rw [← BitVec.ofInt_natCast]; congr 1
theorem t1_lo (d : Nat → BitVec 8) (k : Nat) (h : k < 8) : t1 d (k + 1) = t1 d k ^^^ sx8 (d k) * BitVec.ofNat 64 (2 ^ (8 * k)) := by rw [t1, if_pos h]
theorem t1_hi (d : Nat → BitVec 8) (k : Nat) (h : ¬ k < 8) : t1 d (k + 1) = t1 d k := by rw [t1, if_neg h]
theorem t2_lo (d : Nat → BitVec 8) (k : Nat) (h : k < 8) : t2 d (k + 1) = t2 d k := by rw [t2, if_pos h]
theorem t2_hi (d : Nat → BitVec 8) (k : Nat) (h : ¬ k < 8) : t2 d (k + 1) = t2 d k ^^^ sx8 (d k) * BitVec.ofNat 64 (2 ^ (8 * (k - 8))) := by rw [t2, if_neg h]
theorem v_u64 {a b : BitVec 64} (h : a = b) : Value.int .u64 (U64 a) = .int .u64 (U64 b) := by rw [h]
theorem h1t_s (d : Nat → BitVec 8) (n k : Nat) (hk : k = n / 16) : h1t d n = if 0 < n % 16 then e1 (hN d k).1 (t1 (fun i => d (n / 16 * 16 + i)) (n % 16)) else (hN d k).1 := by subst hk; rfl
theorem h2t_s (d : Nat → BitVec 8) (n k : Nat) (hk : k = n / 16) : h2t d n = if 8 < n % 16 then e2 (hN d k).2 (t2 (fun i => d (n / 16 * 16 + i)) (n % 16)) else (hN d k).2 := by subst hk; rfl
theorem fin_eq' (h1 h2 : BitVec 64) (n : Nat) : fin h1 h2 n = fm ((h1 ^^^ BitVec.ofNat 64 n) + (h2 ^^^ BitVec.ofNat 64 n)) + fm ((h2 ^^^ BitVec.ofNat 64 n) + ((h1 ^^^ BitVec.ofNat 64 n) + (h2 ^^^ BitVec.ofNat 64 n))) := rfl
theorem mur_fin (d : Nat → BitVec 8) (n k j : Nat) (hk : k = n / 16) (hj : j = n % 16) :
    mur d n = fin (if 0 < j then e1 (hN d k).1 (t1 (fun i => d (n / 16 * 16 + i)) j) else (hN d k).1) (if 8 < j then e2 (hN d k).2 (t2 (fun i => d (n / 16 * 16 + i)) j) else (hN d k).2) n := by
  subst hk hj; rfl
end Go.Proofs.YtcbpglkbeaebpaaGreat
