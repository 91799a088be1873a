/- Plain laws: Go's 64-bit integer arithmetic, said of bit vectors. No condition. -/
import Derived.WalkKit
import Derived.IntWalk
namespace Go.Proofs.YtcbpglkbeaebpaaGreat
open Go.RowKit

theorem w64_bv (z : Int) : wrap64 z = (BitVec.ofInt 64 z).toInt := by
  rw [BitVec.toInt_ofInt]; unfold wrap64; simp only [Int.bmod]; omega

theorem wi64_bv (z : Int) : IntKind.i64.wrap z = (BitVec.ofInt 64 z).toInt := by
  rw [← w64_bv]; simp only [IntKind.wrap, IntKind.bits, IntKind.signed, wrap64]; simp; split <;> omega

theorem wu64_bv (z : Int) : IntKind.u64.wrap z = ((BitVec.ofInt 64 z).toNat : Int) := by
  rw [BitVec.toNat_ofInt]; simp only [IntKind.wrap, IntKind.bits, IntKind.signed]; simp; omega

theorem ofInt_mul' (a b : Int) : BitVec.ofInt 64 (a * b) = BitVec.ofInt 64 a * BitVec.ofInt 64 b := BitVec.ofInt_mul a b
theorem ofInt_add' (a b : Int) : BitVec.ofInt 64 (a + b) = BitVec.ofInt 64 a + BitVec.ofInt 64 b := BitVec.ofInt_add a b
theorem ofInt_nat (x : BitVec 64) : BitVec.ofInt 64 (x.toNat : Int) = x := by
  rw [BitVec.ofInt_natCast]; simp

/-! ### The walk's spellings: a bit vector as Go's int64, as Go's uint64 (closed words: the walk's simp does not look behind them) -/
def I64 (x : BitVec 64) : Int := x.toInt
def U64 (x : BitVec 64) : Int := (x.toNat : Int)
def U8 (x : BitVec 8) : Int := (x.toNat : Int)
def sx8 (x : BitVec 8) : BitVec 64 := x.signExtend 64

theorem s_u_i (x : BitVec 64) : IntKind.u64.wrap (I64 x) = U64 x := by unfold I64 U64; rw [wu64_bv, BitVec.ofInt_toInt]
theorem s_i_u (x : BitVec 64) : wrap64 (U64 x) = I64 x := by unfold I64 U64; rw [w64_bv, ofInt_nat]
theorem s_ofI (x : BitVec 64) : BitVec.ofInt 64 (I64 x) = x := by unfold I64; exact BitVec.ofInt_toInt
theorem s_ofU (x : BitVec 64) : BitVec.ofInt 64 (U64 x) = x := ofInt_nat x
theorem s_ofU8 (x : BitVec 8) : BitVec.ofInt 64 (U8 x) = x.setWidth 64 := by
  unfold U8; rw [BitVec.ofInt_natCast]; simp
theorem s_imul (x : BitVec 64) (c : Int) : wrap64 (I64 x * c) = I64 (x * BitVec.ofInt 64 c) := by rw [w64_bv, ofInt_mul', s_ofI]; rfl
theorem s_iadd (x : BitVec 64) (c : Int) : wrap64 (I64 x + c) = I64 (x + BitVec.ofInt 64 c) := by rw [w64_bv, ofInt_add', s_ofI]; rfl
theorem s_umul (x : BitVec 64) (c : Int) : IntKind.u64.wrap (U64 x * c) = U64 (x * BitVec.ofInt 64 c) := by rw [wu64_bv, ofInt_mul', s_ofU]; rfl
theorem s_uadd (x : BitVec 64) (c : Int) : IntKind.u64.wrap (U64 x + c) = U64 (x + BitVec.ofInt 64 c) := by rw [wu64_bv, ofInt_add', s_ofU]; rfl
theorem s_ixor (x : BitVec 64) (b : Int) : bits .xor .i64 (I64 x) b = I64 (x ^^^ BitVec.ofInt 64 b) := by
  unfold bits; simp only [IntKind.bits, s_ofI]; rw [wi64_bv, ofInt_nat]; rfl
theorem s_ior (x : BitVec 64) (b : Int) : bits .or .i64 (I64 x) b = I64 (x ||| BitVec.ofInt 64 b) := by
  unfold bits; simp only [IntKind.bits, s_ofI]; rw [wi64_bv, ofInt_nat]; rfl
theorem s_uxor (x : BitVec 64) (b : Int) : bits .xor .u64 (U64 x) b = U64 (x ^^^ BitVec.ofInt 64 b) := by
  unfold bits; simp only [IntKind.bits, s_ofU]; rw [wu64_bv, ofInt_nat]; rfl
theorem s_uor (x : BitVec 64) (b : Int) : bits .or .u64 (U64 x) b = U64 (x ||| BitVec.ofInt 64 b) := by
  unfold bits; simp only [IntKind.bits, s_ofU]; rw [wu64_bv, ofInt_nat]; rfl
theorem s_ixor0 (y : BitVec 64) : bits .xor .i64 0 (I64 y) = I64 y := by
  have h := s_ixor 0#64 (I64 y)
  rw [s_ofI, BitVec.zero_xor] at h
  exact h
theorem s_uxor0 (y : BitVec 64) : bits .xor .u64 0 (U64 y) = U64 y := by
  have h := s_uxor 0#64 (U64 y)
  rw [s_ofU, BitVec.zero_xor] at h
  exact h
theorem s_uor0 (b : Int) : bits .or .u64 0 b = U64 (BitVec.ofInt 64 b) := by
  have h := s_uor 0#64 b
  rw [BitVec.zero_or] at h
  exact h
theorem s_shr (x : BitVec 64) (n : Nat) (c : Int) (h : c = ((2 ^ n : Nat) : Int)) : U64 x / c = U64 (x >>> n) := by
  unfold U64; rw [h, BitVec.toNat_ushiftRight, Nat.shiftRight_eq_div_pow]; omega
theorem s_shr33 (x : BitVec 64) : U64 x / (8589934592 : Int) = U64 (x >>> 33) := s_shr x 33 _ (by decide)
theorem s_shr31 (x : BitVec 64) : U64 x / (2147483648 : Int) = U64 (x >>> 31) := s_shr x 31 _ (by decide)
theorem s_shr37 (x : BitVec 64) : U64 x / (137438953472 : Int) = U64 (x >>> 37) := s_shr x 37 _ (by decide)
theorem s_sx (x : BitVec 8) : IntKind.i8.wrap (U8 x) = I64 (sx8 x) := by
  unfold U8 I64 sx8
  rw [BitVec.toInt_signExtend_of_le (by decide), BitVec.toInt_eq_toNat_bmod]
  simp only [IntKind.wrap, IntKind.bits, IntKind.signed, Int.bmod]
  have := x.isLt
  simp; split <;> omega
theorem s_i_i (x : BitVec 64) : wrap64 (I64 x) = I64 x := by unfold I64; rw [w64_bv, BitVec.ofInt_toInt]
theorem s_u_u (x : BitVec 64) : IntKind.u64.wrap (U64 x) = U64 x := by unfold U64; rw [wu64_bv, ofInt_nat]
theorem s_u_8 (x : BitVec 8) : IntKind.u64.wrap (U8 x) = U64 (x.setWidth 64) := by rw [wu64_bv, s_ofU8]; rfl

def rl31 (x : BitVec 64) : BitVec 64 := x * 2147483648#64 ||| x >>> 33
def rl27 (x : BitVec 64) : BitVec 64 := x * 134217728#64 ||| x >>> 37
def rl33 (x : BitVec 64) : BitVec 64 := x * 8589934592#64 ||| x >>> 31
def fm (x : BitVec 64) : BitVec 64 :=
  ((x ^^^ x >>> 33) * 18397679294719823053#64 ^^^ ((x ^^^ x >>> 33) * 18397679294719823053#64) >>> 33) * 14181476777654086739#64 ^^^
    (((x ^^^ x >>> 33) * 18397679294719823053#64 ^^^ ((x ^^^ x >>> 33) * 18397679294719823053#64) >>> 33) * 14181476777654086739#64) >>> 33
theorem ret_int {k : IntKind} {a b : Int} (h : a = b) : Ending.returned (.int k a) = .returned (.int k b) := by rw [h]
theorem ret2_int {k : IntKind} {v : Value} {a b : Int} (h : a = b) : Ending.returned (.tuple #[v, .int k a]) = .returned (.tuple #[v, .int k b]) := by rw [h]
theorem ret_i64 {a b : BitVec 64} (h : a = b) : Ending.returned (.int .i64 (I64 a)) = .returned (.int .i64 (I64 b)) := by rw [h]
theorem ret_u64 {a b : BitVec 64} (h : a = b) : Ending.returned (.int .u64 (U64 a)) = .returned (.int .u64 (U64 b)) := by rw [h]

/-- Eight bytes from the last one to the first: the lowest first. -/
def leK (d : Nat → BitVec 8) : Nat → BitVec 64
  | 0 => 0#64
  | k + 1 => leK d k * 256#64 ||| (d (7 - k)).setWidth 64
def le8 (d : Nat → BitVec 8) : BitVec 64 := leK d 8

/-! ### Cassandra's Murmur3, its first half -/
def rlN (n : Int) (x : BitVec 64) : BitVec 64 := if n = 31 then rl31 x else if n = 27 then rl27 x else rl33 x
theorem rlN_31 (x : BitVec 64) : rlN 31 x = rl31 x := rfl
theorem rlN_27 (x : BitVec 64) : rlN 27 x = rl27 x := rfl
theorem rlN_33 (x : BitVec 64) : rlN 33 x = rl33 x := rfl
def rA (h : BitVec 64 × BitVec 64) (k1 : BitVec 64) : BitVec 64 :=
  (rl27 (h.1 ^^^ rl31 (k1 * 9782798678568883157#64) * 5545529020109919103#64) + h.2) * 5#64 + 1390208809#64
def rB (h : BitVec 64 × BitVec 64) (k1 k2 : BitVec 64) : BitVec 64 :=
  (rl31 (h.2 ^^^ rl33 (k2 * 5545529020109919103#64) * 9782798678568883157#64) + rA h k1) * 5#64 + 944331445#64
def hN (d : Nat → BitVec 8) : Nat → BitVec 64 × BitVec 64
  | 0 => (0#64, 0#64)
  | k + 1 => (rA (hN d k) (le8 fun i => d (k * 16 + i)), rB (hN d k) (le8 fun i => d (k * 16 + i)) (le8 fun i => d (k * 16 + 8 + i)))
/-- The tail's two words, after k of its bytes. -/
def t1 (d : Nat → BitVec 8) : Nat → BitVec 64
  | 0 => 0#64
  | k + 1 => if k < 8 then t1 d k ^^^ sx8 (d k) * BitVec.ofNat 64 (2 ^ (8 * k)) else t1 d k
def t2 (d : Nat → BitVec 8) : Nat → BitVec 64
  | 0 => 0#64
  | k + 1 => if k < 8 then t2 d k else t2 d k ^^^ sx8 (d k) * BitVec.ofNat 64 (2 ^ (8 * (k - 8)))
def e2 (h k2 : BitVec 64) : BitVec 64 := h ^^^ rl33 (k2 * 5545529020109919103#64) * 9782798678568883157#64
def e1 (h k1 : BitVec 64) : BitVec 64 := h ^^^ rl31 (k1 * 9782798678568883157#64) * 5545529020109919103#64
def fin (h1 h2 : BitVec 64) (n : Nat) : BitVec 64 :=
  fm ((h1 ^^^ BitVec.ofNat 64 n) + (h2 ^^^ BitVec.ofNat 64 n)) + fm ((h2 ^^^ BitVec.ofNat 64 n) + ((h1 ^^^ BitVec.ofNat 64 n) + (h2 ^^^ BitVec.ofNat 64 n)))
/-- The two words behind the tail. -/
def h1t (d : Nat → BitVec 8) (n : Nat) : BitVec 64 := if 0 < n % 16 then e1 (hN d (n / 16)).1 (t1 (fun i => d (n / 16 * 16 + i)) (n % 16)) else (hN d (n / 16)).1
def h2t (d : Nat → BitVec 8) (n : Nat) : BitVec 64 := if 8 < n % 16 then e2 (hN d (n / 16)).2 (t2 (fun i => d (n / 16 * 16 + i)) (n % 16)) else (hN d (n / 16)).2
def mur (d : Nat → BitVec 8) (n : Nat) : BitVec 64 := fin (h1t d n) (h2t d n) n
theorem fin_eq (h1 h2 : BitVec 64) (n : Nat) : fin h1 h2 n = fm ((h1 ^^^ BitVec.ofNat 64 n) + (h2 ^^^ BitVec.ofNat 64 n)) + fm ((h2 ^^^ BitVec.ofNat 64 n) + ((h1 ^^^ BitVec.ofNat 64 n) + (h2 ^^^ BitVec.ofNat 64 n))) := rfl

theorem hN_1 (d : Nat → BitVec 8) (k : Nat) : (hN d (k + 1)).1 = (rl27 ((hN d k).1 ^^^ rl31 ((le8 fun i => d (k * 16 + i)) * 9782798678568883157#64) * 5545529020109919103#64) + (hN d k).2) * 5#64 + 1390208809#64 := rfl
theorem hN_2 (d : Nat → BitVec 8) (k : Nat) : (hN d (k + 1)).2 = (rl31 ((hN d k).2 ^^^ rl33 ((le8 fun i => d (k * 16 + 8 + i)) * 5545529020109919103#64) * 9782798678568883157#64) + ((rl27 ((hN d k).1 ^^^ rl31 ((le8 fun i => d (k * 16 + i)) * 9782798678568883157#64) * 5545529020109919103#64) + (hN d k).2) * 5#64 + 1390208809#64)) * 5#64 + 944331445#64 := rfl
theorem bits_and15 (n : Nat) (h : n ≤ 140737488355328) : bits .and .i64 (n : Int) 15 = ((n % 16 : Nat) : Int) := by
  show IntKind.i64.wrap ((BitVec.ofInt 64 (n : Int) &&& BitVec.ofInt 64 15).toNat : Int) = _
  rw [wi64_bv, BitVec.ofInt_natCast (n := n)]
  have e : (BitVec.ofNat 64 n &&& BitVec.ofInt 64 15).toNat = n % 16 := by
    have h15 : (BitVec.ofInt 64 15).toNat = 15 := by decide
    rw [BitVec.toNat_and, BitVec.toNat_ofNat, h15, Nat.mod_eq_of_lt (by omega)]
    exact Nat.and_two_pow_sub_one_eq_mod n 4
  rw [e, BitVec.ofInt_natCast, BitVec.toInt_eq_toNat_bmod, BitVec.toNat_ofNat]
  simp only [Int.bmod]
  omega
end Go.Proofs.YtcbpglkbeaebpaaGreat
