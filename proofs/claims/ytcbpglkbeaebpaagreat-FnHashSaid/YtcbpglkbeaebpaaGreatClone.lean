/- slices.Clone of bytes: nil stays nil; else a new row with the same bytes. Condition: the slice has at most 2^47 bytes. -/
import Derived.Test.YtcbpglkbeaebpaaGreatProg
import Derived.WalkKit
import Derived.WalkSpells
import Derived.WalkLawsBesides
import Derived.Lib.Hide
namespace Go.Proofs.YtcbpglkbeaebpaaGreat
open Go.RowKit

theorem infoU8 : (Tryz.prog.info? 5).map (fun i => (i.zero, i.size, i.bytes)) = some (some (.int .u8 0), 1, 1) := by kernel_rfl

/-- A row of n cells from off on in block b. -/
def RowAt (w : World) (b off n : Nat) (f : Nat → Value) : Prop := ∀ i, i < n → w.cell? ⟨b, off + i, none⟩ = some (f i)

theorem RowAt.below {w w' : World} {b off n B : Nat} {f : Nat → Value} (h : RowAt w b off n f) (hb : Below B w w') (hB : b < B) : RowAt w' b off n f :=
  fun i hi => by rw [hb.cell (p := ⟨b, off + i, none⟩) hB]; exact h i hi

set_option maxRecDepth 100000 in
theorem clone_nil (w : World) : Calls Tryz.prog 8 #[.slice none 0 0] w fun e w' => e = .returned (.slice none 0 0) ∧ w = w' := by
  have hne : ∀ l c w, (binOp .eql 22 (.slice none l c) (.slice none 0 0)).run Tryz.prog w = .ok (.bool true) w := fun l c w => Lib.run_eql_slice_nil w 22 5 none l c _ _ Tryz.underlying22
  go_enter Tryz.func8, Tryz.ntmps8
  go_wp2
  go_ret
  exact ⟨rfl, rfl⟩

/-- The slice that a clone hands back: new, with the same cells. -/
def Cloned (w w' : World) (len : Nat) (f : Nat → Value) (v : Value) : Prop :=
  ∃ b cap, v = .slice (some ⟨b, 0, none⟩) len cap ∧ len ≤ cap ∧ cap ≤ maxLen ∧ w.heap.size ≤ b ∧ b < w'.heap.size ∧ RowAt w' b 0 len f ∧ Below w.heap.size w w'

theorem rowAt_news {w : World} {b off n : Nat} {f : Nat → Value} (h : RowAt w b off n f) :
    ∀ j u, ((List.range n).map f)[j]? = some u → w.cell? ((⟨b, off, none⟩ : Addr).add j) = some u := by
  intro j u hu
  simp only [List.getElem?_map, Option.map_eq_some_iff] at hu
  obtain ⟨k, hk, rfl⟩ := hu
  rw [List.getElem?_eq_some_iff] at hk
  obtain ⟨hlt, hk⟩ := hk
  simp at hlt hk
  subst hk
  have := h j hlt
  by_cases h0 : j = 0
  · subst h0; simpa [Addr.add] using this
  · simpa [Addr.add, h0] using this

theorem cloned_of_owns {w w' : World} {n : Nat} {e : TypeId} {f : Nat → Value} {v : Value} (hn : ¬ v = .slice none 0 0) (ho : w'.ownsRow w.heap.size e 1 v n ((List.range n).map f)) (hb : Below w.heap.size w w') : Cloned w w' n f v := by
  obtain ⟨h1, h2⟩ := ho
  rcases h2 with ⟨h, _⟩ | ⟨g, cap, cur, rfl, hg, hh, hc, hm, hs, ht⟩
  · exact absurd h hn
  · refine ⟨g, cap, rfl, hc, hm, hg, ?_, ?_, hb⟩
    · exact (Array.getElem?_eq_some_iff.1 hh).1
    · intro i hi
      have ho : w'.ownsRow w.heap.size e 1 (.slice (some ⟨g, 0, none⟩) n cap) n ((List.range n).map f) := ⟨h1, .inr ⟨g, cap, cur, rfl, hg, hh, hc, hm, hs, ht⟩⟩
      have := ho.cellAt i (by omega)
      rw [Nat.zero_add, this]
      simp [hi]

set_option maxHeartbeats 400000 in
theorem clone_some (b off len cap : Nat) (f : Nat → Value) (w : World) (hr : RowAt w b off len f) (h1 : ∀ i, (f i).oneCell' = true) (hb : b < w.heap.size) (hl : len ≤ 140737488355328) :
    Calls Tryz.prog 8 #[.slice (some ⟨b, off, none⟩) len cap] w fun e w' => ∃ v, e = .returned v ∧ Cloned w w' len f v := by
  have hne : ∀ a l c w, (binOp .eql 22 (.slice (some a) l c) (.slice none 0 0)).run Tryz.prog w = .ok (.bool false) w := fun a l c w => Lib.run_eql_slice_nil w 22 5 (some a) l c _ _ Tryz.underlying22
  obtain ⟨i0, hi, hz0, hz1, hz2⟩ := info_parts infoU8
  have hb0 := (Below.refl w.heap.size w).alloc (Nat.le_refl _) (.cells #[] 5)
  have hr0 : RowAt (w.alloc (.cells #[] 5)) b off len f := hr.below hb0 hb
  have hown : (w.alloc (.cells #[] 5)).ownsRow w.heap.size 5 1 (.slice (some ⟨w.heap.size, 0, none⟩) 0 0) 0 [] := ⟨rfl, .inr ⟨w.heap.size, 0, #[], rfl, Nat.le_refl _, by show (w.heap.push _)[_]? = _; simp, Nat.le_refl _, by simp [maxLen], rfl, rfl⟩⟩
  have hN := rowAt_news hr0
  have HN := Lib.hid hN
  clear hN hr0
  go_enter Tryz.func8, Tryz.ntmps8
  go_wp2_with (at_builtin; refine wpList_append_own _ rfl _ _ 22 rfl w.heap.size 5 i0 (.int .u8 0) 1 1 Tryz.underlying22 hi hz0 hz1 hz2 rfl (by decide) _ _ _ rfl hown ⟨b, off, none⟩ len cap ((List.range len).map f) rfl ?c1 HN.out ?c2 ?c3 ?c4 ?c5 ?_)
  case c1 => simp
  case c2 =>
    intro u hu
    simp at hu
    obtain ⟨k, _, rfl⟩ := hu
    exact h1 k
  case c3 => unfold maxLen; omega
  case c4 => omega
  case c5 => simp
  intro v' w' ho hg hv
  have hcl := cloned_of_owns hv ho (hb0.grown hg (by simp) (by intro k hk; simp [Value.ownBlock] at hk; omega))
  clear ho hg hv
  go_wp2
  go_ret
  exact ⟨_, rfl, hcl⟩
end Go.Proofs.YtcbpglkbeaebpaaGreat
