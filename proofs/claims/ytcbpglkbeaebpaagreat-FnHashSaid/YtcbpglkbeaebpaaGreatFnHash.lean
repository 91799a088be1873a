/- laws.FnHash answers true: the package's hash of bytes is the reference's Murmur3. No condition. -/
import Derived.Test.YtcbpglkbeaebpaaGreatRows
import Derived.Test.YtcbpglkbeaebpaaGreatWorksB
import Derived.Test.YtcbpglkbeaebpaaGreatMur
import Derived.Test.YtcbpglkbeaebpaaGreatMurNil
import Derived.Test.YtcbpglkbeaebpaaGreatSpecHash
import Derived.WalkKit
import Derived.ProofKit
import Derived.OpenShut
import Derived.ShutString
import Derived.ChangeOld
import Derived.Below
namespace Go.Proofs.YtcbpglkbeaebpaaGreat.fnHash
open Go.ChangeShapes Go.WideShapes Go.ChangeAt Go.RowKit
open Go.ChangeMaps (open_string shut_string)
set_option linter.unusedVariables false

theorem own : ownKnob Tryz.prog.godebug = none := by kernel_rfl
theorem laidOut : laidOutB Tryz.prog = true := by kernel_rfl

theorem slice_has {P : Program} {w : World} {r : Reach} {base : Nat} {t e : TypeId} {a : Addr} {len cap : Nat} (ht : P.underlying t = some (.slice e)) (h : Value.okWide P w r base t (.slice (some a) len cap)) :
    a.spot = none ∧ a.block < w.heap.size := by
  simp only [Value.okWide, ht, Cell.okWide, Cell.ok] at h
  obtain ⟨_, _, _, h2, row, cells, h3, _⟩ := h
  refine ⟨h2, ?_⟩
  unfold World.shape? at h3
  rcases Nat.lt_or_ge a.block w.heap.size with hl | hl
  · exact hl
  · rw [Array.getElem?_eq_none hl] at h3
    simp at h3

/-- What the walk is told of a slice of integers that came in: nil, or a row of cap numbers. -/
def IsRow (k : IntKind) (w : World) (a : Option Addr) (len cap : Nat) (zs : List Int) : Prop :=
  (a = none ∧ len = 0 ∧ cap = 0 ∧ zs = []) ∨
  ∃ x, a = some x ∧ x.spot = none ∧ x.block < w.heap.size ∧ len ≤ cap ∧ cap ≤ maxLen ∧ zs.length = cap ∧ (∀ i, i < zs.length → w.cell? (x.add i) = some (.int k (zs.getD i 0))) ∧ ∀ n ∈ zs, (Lit.int k n).wf = true

theorem impl_hash_some (b off len cap : Nat) (d : Nat → BitVec 8) (w : World) (hlc : len ≤ 300) (hb : b < w.heap.size) (hr : RowAt w b off len (fun i => .int .u8 (U8 (d i)))) :
    Calls Tryz.prog 4 #[.slice (some ⟨b, off, none⟩) len cap] w fun e w' => e = .returned (.int .i64 (I64 (mur d len))) ∧ Below w.heap.size w w' := by
  have hc := clone_some b off len cap (fun i => .int .u8 (U8 (d i))) w hr (fun _ => rfl) hb (by omega)
  have HC := Lib.hid hc
  clear hc hr
  go_enter Tryz.func4, Tryz.ntmps4
  go_wp2_with fail
  refine HC.out.mono ?_
  rintro e w1 ⟨v, rfl, b', cap', rfl, h1, h2, h3, h4, h5, h6⟩
  have HR := Lib.hid h5
  clear h5
  go_wp2_with fail
  refine (murmur_any b' 0 len cap' d w1 h1 (by omega) h2 HR.out).mono ?_
  rintro e w2 ⟨rfl, rfl⟩
  go_wp2_with fail
  go_ret
  exact ⟨rfl, h6⟩

theorem impl_hash_nil (d : Nat → BitVec 8) (w : World) :
    Calls Tryz.prog 4 #[.slice none 0 0] w fun e w' => e = .returned (.int .i64 (I64 (mur d 0))) ∧ w = w' := by
  go_enter Tryz.func4, Tryz.ntmps4
  go_wp2_with fail
  refine (clone_nil _).mono ?_
  rintro e w1 ⟨rfl, rfl⟩
  go_wp2_with fail
  refine (murmur_nil d _).mono ?_
  rintro e w2 ⟨rfl, rfl⟩
  go_wp2_with fail
  go_ret
  exact ⟨rfl, rfl⟩

/-- The two hashes agree on a slice of at most 300 bytes. -/
def Agree (a0 : Option Addr) (len cap : Nat) (w : World) : Prop :=
  ∃ x : BitVec 64, Calls Tryz.prog 4 #[.slice a0 len cap] w (fun e w' => e = .returned (.int .i64 (I64 x)) ∧ Below w.heap.size w w' ∧
    Calls Tryz.prog 5 #[.slice a0 len cap] w' (fun e w'' => e = .returned (.int .i64 (I64 x)) ∧ w' = w''))

theorem agree (a0 : Option Addr) (len0 cap0 : Nat) (z0 : List Int) (w : World) (w0 : IsRow .u8 w a0 len0 cap0 z0) (h300 : len0 ≤ 300) : Agree a0 len0 cap0 w := by
  rcases w0 with ⟨rfl, rfl, rfl, rfl⟩ | ⟨⟨b, off, spot⟩, rfl, hs, hb, hl, hm, hz, hc, hw⟩
  · refine ⟨mur (fun _ => 0#8) 0, (impl_hash_nil (fun _ => 0#8) w).mono ?_⟩
    rintro e w' ⟨rfl, rfl⟩
    exact ⟨rfl, Below.refl _ _, spec_hash_nil _ _⟩
  · simp only at hs hb
    subst hs
    have hr : RowAt w b off len0 (fun i => .int .u8 (U8 (BitVec.ofInt 8 (z0.getD i 0)))) := by
      intro i hi
      have h1 := hc i (by omega)
      rw [Go.WideShapes.add_plain] at h1
      rw [h1]
      have hmem : z0.getD i 0 ∈ z0 := by
        rw [List.getD_eq_getElem?_getD, List.getElem?_eq_getElem (by omega)]
        exact List.getElem_mem _
      have hb2 : 0 ≤ z0.getD i 0 ∧ z0.getD i 0 ≤ 255 := by simpa [Lit.wf, IntKind.has, IntKind.min, IntKind.max, IntKind.bits, IntKind.signed] using hw _ hmem
      congr 2
      unfold U8
      rw [BitVec.toNat_ofInt]
      generalize z0.getD i 0 = x at hb2
      omega
    refine ⟨mur (fun i => BitVec.ofInt 8 (z0.getD i 0)) len0, (impl_hash_some b off len0 cap0 _ w h300 hb hr).mono ?_⟩
    rintro e w' ⟨rfl, hbw⟩
    exact ⟨rfl, hbw, spec_hash_any b off len0 cap0 _ w' hl (by omega) (by unfold maxLen at hm; exact hm) (hr.below hbw hb)⟩

theorem walk (a0 : Option Addr) (len0 cap0 : Nat) (z0 : List Int) (w : World) (w0 : IsRow .u8 w a0 len0 cap0 z0) :
    Calls Tryz.prog 3 #[.slice a0 len0 cap0] w fun e w' => e = .returned (.bool true) ∧ Below w.heap.size w w' := by
  by_cases hbig : 2147483647 < len0
  · have hbz : (2147483647 : Int) < (len0 : Int) := by omega
    clear w0
    go_enter Tryz.func3, Tryz.ntmps3
    go_wp2_with fail
    go_ret
    exact ⟨rfl, Below.refl _ _⟩
  · have hbz : ¬ ((2147483647 : Int) < (len0 : Int)) := by omega
    by_cases h3 : 300 < len0
    · have h3z : (300 : Int) < (len0 : Int) := by omega
      clear w0
      go_enter Tryz.func3, Tryz.ntmps3
      go_wp2_with fail
      go_ret
      exact ⟨rfl, Below.refl _ _⟩
    · have h3z : ¬ ((300 : Int) < (len0 : Int)) := by omega
      obtain ⟨x, hx⟩ := agree a0 len0 cap0 z0 w w0 (by omega)
      have HX := Lib.hid hx
      have hxx : (I64 x == I64 x) = true := by simp
      clear hx w0
      go_enter Tryz.func3, Tryz.ntmps3
      go_wp2_with fail
      refine HX.out.mono ?_
      rintro e w1 ⟨rfl, hb1, hs1⟩
      have HS := Lib.hid hs1
      clear hs1
      go_wp2_with fail
      refine HS.out.mono ?_
      rintro e w2 ⟨rfl, rfl⟩
      go_wp2_with fail
      refine (works_any _).mono ?_
      rintro e w3 ⟨rfl, hb3⟩
      go_wp2_with fail
      go_ret
      exact ⟨rfl, hb1.trans (hb3.mono hb1.size)⟩

/-! ### THE ROW's STEP: WRITTEN OUT: LEAVE IT -/
set_option maxRecDepth 100000 in
theorem lifted (os : Os) (started : os.Started) (H : Type) (enc : TypeId × Value → H) :
    ReturnsInHanded {} Tryz.checked os 3 .any (Rows.fnHashSpec.pre6 enc Tryz.prog Tryz.f3 Rows.fnHashRow.domain false) (Rows.fnHashSpec.post enc Tryz.prog Tryz.f3 false true false false) := by
  refine returnsInHanded_of_change (C := Tryz.checked) own started (by kernel_rfl) Tryz.func3
    (ChangeSpec.witness6 (enc := enc) (C := Tryz.checked) false ⟨#[], #[.slice none 0 0], []⟩ 8 (by kernel_rfl) (by kernel_rfl) (by kernel_rfl) (by kernel_rfl)) ?_
  intro W base args ds gs before hval0 hW hcnd _
  have hval : ∀ (j : Nat) t v, Tryz.f3.params[j]? = some t → args[j]? = some v → Value.okWide Tryz.prog W .any base t v := hval0
  have hW' := hW
  obtain ⟨p, q, hA0, hV, rfl, hfz, hnd⟩ := hW
  have hA : DataW.TrodAll enc Tryz.prog W 0 (fun _ => true) true Tryz.f3.params.toList args.toList ds p := hA0
  rw [Tryz.params3] at hA hval
  obtain ⟨v0, vs0, d0, ds0, p0, q0, hargs, rfl, rfl, h0, r0⟩ := trodAll_cons hA
  obtain ⟨rfl, rfl, rfl⟩ := trodAll_nil r0
  obtain rfl : args = #[v0] := by cases args; simp_all
  obtain ⟨rfl, rfl⟩ := trodVars_none hV
  obtain ⟨a0, len0, cap0, rfl⟩ := okWide_slice Tryz.underlying22 (hval 0 22 v0 rfl rfl)
  have k0 := h0
  have lt0 : ∀ x ∈ p0, x.block < W.heap.size := by obtain ⟨m, hm⟩ := k0; exact DataW.trod_lt m _ _ _ hm
  obtain ⟨z0, w0⟩ : ∃ zs, IsRow .u8 W a0 len0 cap0 zs := by
    obtain ⟨fuel, hf⟩ := h0
    rcases open_ints Tryz.underlying22 Tryz.underlying5 (by kernel_rfl) hf with ⟨hcs, _⟩ | ⟨x, l, c, zs, hcs, _, hl, hm, hz, _, hcell, hwz⟩
    · simp [Value.cells] at hcs
      obtain ⟨rfl, rfl, rfl⟩ := hcs
      exact ⟨[], .inl ⟨rfl, rfl, rfl, rfl⟩⟩
    · simp [Value.cells] at hcs
      obtain ⟨rfl, rfl, rfl⟩ := hcs
      have hs := slice_has Tryz.underlying22 (hval 0 22 _ rfl rfl)
      exact ⟨zs, .inr ⟨_, rfl, hs.1, hs.2, hl, hm, by simpa using hz, hcell, hwz⟩⟩
  clear hA0 hval0
  refine (walk a0 len0 cap0 z0 W w0).mono fun e W' ⟨he, bel⟩ => ?_
  subst he
  exact ⟨_, rfl, _, _, _, [], _, [], hW', trodAll_mk1 (shut_bool Tryz.underlying4 _), (trodAll_cons_mk (Below.trod laidOut (by kernel_rfl) (of_decide_eq_true (by kernel_rfl)) k0 bel lt0) trodAll_mk0), rfl, bel.frame _, fun h => by cases h⟩

theorem over : Rows.fnHashRow.holds Tryz.pinned (OpenSpec.ofChange Rows.fnHashSpec) :=
  OpenClaim.holds_of_wide 3 Tryz.f3 rfl rfl rfl rfl rfl rfl rfl ⟨rfl, rfl, rfl, rfl, rfl⟩ rfl rfl rfl rfl rfl (by kernel_rfl) Tryz.func3 (by kernel_rfl)
    (of_decide_eq_true (by kernel_rfl)) (by unfold Func.isWrapper; first | (rw [if_pos (by decide +kernel)]; kernel_rfl) | (rw [if_neg (by decide +kernel)]; exact ⟨rfl, rfl⟩))
    (fun os started H enc _ => lifted os started H enc)

/-- ████ THE STATEMENT ████ -/
theorem proved : Rows.FnHashSaid := over
#print axioms proved
end Go.Proofs.YtcbpglkbeaebpaaGreat.fnHash
