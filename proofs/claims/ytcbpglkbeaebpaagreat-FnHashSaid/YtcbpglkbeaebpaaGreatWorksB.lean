/- laws.works answers true. No condition. -/
import Derived.Test.YtcbpglkbeaebpaaGreatZz
import Derived.Deep.RegionHeld3
import Derived.Shelf.Abstract
namespace Go.Proofs.YtcbpglkbeaebpaaGreat
open Go.RowKit Go.Shelf

set_option maxRecDepth 100000 in
set_option maxHeartbeats 1600000 in
theorem lessfn_ab (b0 b1 b2 b3 : Nat) (w : World) (l0 : b0 < w.heap.size) (l1 : b1 < w.heap.size) (l2 : b2 < w.heap.size) (l3 : b3 < w.heap.size) (h0 : w.cell? ⟨b0, 0, none⟩ = some (.int .i64 1)) (h1 : w.cell? ⟨b1, 0, none⟩ = some (.string ⟨#[97]⟩)) (h2 : w.cell? ⟨b2, 0, none⟩ = some (.string ⟨#[98]⟩))
    (h3 : w.cell? ⟨b3, 0, none⟩ = some (.bool false)) (z3 : w.frozen? ⟨b3, 0, none⟩ = false) :
    Calls Tryz.prog 17 #[.pointer (some ⟨b0, 0, none⟩), .pointer (some ⟨b1, 0, none⟩), .pointer (some ⟨b2, 0, none⟩), .pointer (some ⟨b3, 0, none⟩)] w fun e w' =>
    e = .returned (.bool true) ∧ ∃ w1, w' = w1.setCell ⟨b3, 0, none⟩ (.bool true) ∧ Below w.heap.size w w1 := by
  go_enter Tryz.func17, Tryz.ntmps17
  go_wp2_with fail
  go_region_held3 (fun w' => b0 < w'.heap.size ∧ b1 < w'.heap.size ∧ b2 < w'.heap.size ∧ b3 < w'.heap.size ∧ w'.cell? ⟨b0, 0, none⟩ = some (.int .i64 1) ∧ w'.cell? ⟨b1, 0, none⟩ = some (.string ⟨#[97]⟩) ∧ w'.cell? ⟨b2, 0, none⟩ = some (.string ⟨#[98]⟩)) (go_keep)
    (first
      | (go_at_call 19; refine (part_ord _).mono ?_; rintro e w' ⟨rfl, rfl⟩)
      | (go_at_call 18; refine (zzless_ab _).mono ?_; rintro e w1 ⟨rfl, hb1⟩; have k0 := hb1.cell (p := ⟨b0, 0, none⟩) (by simp; omega); have k1 := hb1.cell (p := ⟨b1, 0, none⟩) (by simp; omega); have k2 := hb1.cell (p := ⟨b2, 0, none⟩) (by simp; omega); have k3 := hb1.cell (p := ⟨b3, 0, none⟩) (by simp; omega); have f3 := hb1.frozen (p := ⟨b3, 0, none⟩) (by simp; omega); have m0 := Nat.lt_of_lt_of_le (by assumption : b0 < _) hb1.size; have m1 := Nat.lt_of_lt_of_le (by assumption : b1 < _) hb1.size; have m2 := Nat.lt_of_lt_of_le (by assumption : b2 < _) hb1.size; have m3 := Nat.lt_of_lt_of_le (by assumption : b3 < _) hb1.size))
  go_wp2_with fail
  go_ret
  refine ⟨rfl, _, rfl, ?_⟩
  exact (Below.refl _ _).drew.trans hb1

set_option maxRecDepth 100000 in
set_option maxHeartbeats 800000 in
theorem impl_less_ab (w : World) : Calls Tryz.prog 11 #[.int .i64 1, .string ⟨#[97]⟩, .string ⟨#[98]⟩] w fun e w' => e = .returned (.bool true) ∧ Below w.heap.size w w' := by
  have hmf : ∀ (fn : Fn) (first cap : Array Value) (w : World), (Instr.makeFunc fn first cap).run Tryz.prog w = .ok (.func fn first cap) w := fun _ _ _ _ => rfl
  have eg : ∀ args w, (callFunc 17 args).run Tryz.prog w = .ok (.enter 17 args) w := enters_of Tryz.func17 (by kernel_rfl) rfl
  go_enter Tryz.func11, Tryz.ntmps11
  go_wp2_with fail
  have hT := try_any 17 #[.pointer (some ⟨w.heap.size, 0, none⟩), .pointer (some ⟨w.heap.size + 1, 0, none⟩), .pointer (some ⟨w.heap.size + 1 + 1, 0, none⟩), .pointer (some ⟨w.heap.size + 1 + 1 + 1, 0, none⟩)] true
    ((((w.alloc (.cells #[.int .i64 1] 3)).alloc (.cells #[.string ⟨#[97]⟩] 9)).alloc (.cells #[.string ⟨#[98]⟩] 9)).alloc (.cells #[.bool false] 4))
    (fun w' => Below w.heap.size w w' ∧ w.heap.size + 1 + 1 + 1 < w'.heap.size ∧ w'.cell? ⟨w.heap.size + 1 + 1 + 1, 0, none⟩ = some (.bool true) ∧ w'.frozen? ⟨w.heap.size + 1 + 1 + 1, 0, none⟩ = false) eg ?_
  · refine hT.mono ?_
    rintro e w' ⟨rfl, w1, ⟨hb, hs, hc, hz⟩, rfl⟩
    go_wp2_with fail
    refine bodyPost_ret (v := .bool true) (by simp [results, Tryz.results11, go_sem, hc]) rfl ⟨rfl, ?_⟩
    exact (hb.setCell (by simp <;> omega) _).setCell (by simp <;> omega) _
  · refine (lessfn_ab _ _ _ _ _ (by simp <;> omega) (by simp <;> omega) (by simp) (by simp) (by simp [go_sem]) (by simp [go_sem]) (by simp [go_sem]) (by simp [go_sem]) (by simp [go_sem])).mono ?_
    rintro e w' ⟨rfl, w1, rfl, hb⟩
    have hs := hb.size
    have c0 := hb.cell (p := ⟨w.heap.size + 1 + 1 + 1, 0, none⟩) (by simp)
    have z0 := hb.frozen (p := ⟨w.heap.size + 1 + 1 + 1, 0, none⟩) (by simp)
    have c1 := hb.cell (p := ⟨w.heap.size + 1 + 1 + 1 + 1, 0, none⟩) (by simp)
    have z1 := hb.frozen (p := ⟨w.heap.size + 1 + 1 + 1 + 1, 0, none⟩) (by simp)
    simp at hs
    simp [go_sem] at c0 z0 c1 z1
    refine ⟨rfl, ⟨?_, by simp; omega, by simp [go_sem, c0], by simp [go_sem, z0]⟩, by simp [go_sem, c1], by simp [go_sem, z1]⟩
    refine Below.setCell ?_ (by simp; omega) _
    refine Below.trans ?_ (hb.mono (by simp; omega))
    exact (((((Below.refl _ _).alloc (Nat.le_refl _) _).alloc (by simp) _).alloc (by simp; omega) _).alloc (by simp; omega) _).alloc (by simp; omega) _

theorem works_any (w : World) : Calls Tryz.prog 6 #[] w fun e w' => e = .returned (.bool true) ∧ Below w.heap.size w w' := by
  go_enter Tryz.func6, Tryz.ntmps6
  go_wp2_with fail
  refine (impl_less_ab _).mono ?_
  rintro e w' ⟨rfl, hb⟩
  go_wp2_with fail
  go_ret
  exact ⟨rfl, hb⟩
end Go.Proofs.YtcbpglkbeaebpaaGreat
