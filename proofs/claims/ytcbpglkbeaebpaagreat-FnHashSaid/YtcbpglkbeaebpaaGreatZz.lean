/- gocqltoken.ZZLess orders the plain tokens "a" and "b" of the ordered partitioner. No condition. -/
import Derived.Test.YtcbpglkbeaebpaaGreatWorks
import Derived.Deep.RegionHeld3
namespace Go.Proofs.YtcbpglkbeaebpaaGreat
open Go.RowKit

set_option maxRecDepth 100000 in
set_option maxHeartbeats 1600000 in
theorem zzless_ab (w : World) : Calls Tryz.prog 18 #[.string ⟨#[79, 114, 100, 101, 114, 101, 100, 80, 97, 114, 116, 105, 116, 105, 111, 110, 101, 114]⟩, .string ⟨#[97]⟩, .string ⟨#[98]⟩] w fun e w' =>
    e = .returned (.tuple #[.bool true, .bool true]) ∧ Below w.heap.size w w' := by
  have mP : ∀ w, Sem.run Tryz.prog (method 299 61 (.agg #[]) "ParseString") w = .ok (94, .agg #[]) w := fun w => by kernel_rfl
  have mL : ∀ s w, Sem.run Tryz.prog (method 299 144 (.string s) "Less") w = .ok (133, .string s) w := fun s w => by kernel_rfl
  have nL : ∀ s w, Sem.run Tryz.prog (nilAhead 299 144 (.string s) "Less") w = .ok (some false) w := fun s w => by kernel_rfl
  go_enter Tryz.func18, Tryz.ntmps18
  go_wp2_with fail
  refine (ring_nil_ordered _).mono ?_
  rintro e w' ⟨rfl, rfl⟩
  go_wp2_with fail
  have hw := World.new_ne w
  go_region_held3 (fun w' => w'.cell? ⟨w.heap.size, 0, none⟩ = some (.iface 61 (.agg #[])) ∧ w.heap.size < w'.heap.size ∧ Below w.heap.size w w') (refine ⟨?_, ?_, ?_⟩ <;> first | (simp [*, World.cell?_alloc_some]; done) | (simp; omega) | (repeat (first | exact Below.refl _ _ | assumption | refine Below.drew ?_ | refine Below.alloc ?_ (by simp <;> omega) _)))
    (first | (go_at_call 94; refine (parse_ord _ _).mono ?_; rintro e w' ⟨rfl, rfl⟩) | (go_at_call 133; refine (less_ab _).mono ?_; rintro e w' ⟨rfl, rfl⟩))
  all_goals
    go_wp2_with fail
    go_ret2
    refine ⟨rfl, ?_⟩
    exact ((((Below.refl _ _).alloc (Nat.le_refl _) _).alloc (by simp) _).alloc (by simp; omega) _).drew
end Go.Proofs.YtcbpglkbeaebpaaGreat
