/- laws.works answers true: the package orders the two plain tokens "a" and "b". No condition. -/
import Derived.Test.YtcbpglkbeaebpaaGreatTry
import Derived.RegionTactic
import Derived.Deep.QuietTactic
import Derived.BigQuiet
import Derived.Deep.RegionWith
namespace Go.Proofs.YtcbpglkbeaebpaaGreat
open Go.RowKit

theorem ret_bool {a b : Bool} (h : a = b) : Ending.returned (.bool a) = .returned (.bool b) := by rw [h]

set_option maxHeartbeats 400000 in
theorem suf_om (w : World) : Calls Tryz.prog 23 #[.string ⟨#[79, 114, 100, 101, 114, 101, 100, 80, 97, 114, 116, 105, 116, 105, 111, 110, 101, 114]⟩, .string ⟨#[77, 117, 114, 109, 117, 114, 51, 80, 97, 114, 116, 105, 116, 105, 111, 110, 101, 114]⟩] w fun e w' => e = .returned (.bool false) ∧ w = w' := by
  go_enter Tryz.func23, Tryz.ntmps23
  go_wp2
  go_ret
  exact ⟨ret_bool (by decide +kernel), rfl⟩

set_option maxHeartbeats 400000 in
theorem suf_oo (w : World) : Calls Tryz.prog 23 #[.string ⟨#[79, 114, 100, 101, 114, 101, 100, 80, 97, 114, 116, 105, 116, 105, 111, 110, 101, 114]⟩, .string ⟨#[79, 114, 100, 101, 114, 101, 100, 80, 97, 114, 116, 105, 116, 105, 111, 110, 101, 114]⟩] w fun e w' => e = .returned (.bool true) ∧ w = w' := by
  go_enter Tryz.func23, Tryz.ntmps23
  go_wp2
  go_ret
  exact ⟨ret_bool (by decide +kernel), rfl⟩

theorem part_ord (w : World) : Calls Tryz.prog 19 #[.int .i64 1] w fun e w' => e = .returned (.string ⟨#[79, 114, 100, 101, 114, 101, 100, 80, 97, 114, 116, 105, 116, 105, 111, 110, 101, 114]⟩) ∧ w = w' := by
  go_enter Tryz.func19, Tryz.ntmps19
  go_wp2
  go_ret
  exact ⟨rfl, rfl⟩

theorem len_nil_ring (b : Nat) (w : World) (hc : w.cell? ⟨b, 1, none⟩ = some (.slice none 0 0)) : Calls Tryz.prog 62 #[.pointer (some ⟨b, 0, none⟩)] w fun e w' => e = .returned (.int .i64 0) ∧ w = w' := by
  go_enter Tryz.func62, Tryz.ntmps62
  go_wp2
  go_ret
  exact ⟨rfl, rfl⟩

set_option maxRecDepth 100000 in
theorem sort_nil_ring (b : Nat) (w : World) (hc : w.cell? ⟨b, 1, none⟩ = some (.slice none 0 0)) : Calls Tryz.prog 26 #[.iface 43 (.pointer (some ⟨b, 0, none⟩))] w fun e w' => e = .returned (.tuple #[]) ∧ w = w' := by
  have mN : ∀ w, Sem.run Tryz.prog (method (299) 43 (.pointer (some ⟨b, 0, none⟩)) "Len") w = .ok (62, .pointer (some ⟨b, 0, none⟩)) w := fun w => by kernel_rfl
  go_enter Tryz.func26, Tryz.ntmps26
  go_wp2_with (go_at_call 62; refine (len_nil_ring b _ hc).mono ?_; rintro e w' ⟨rfl, rfl⟩)
  refine bodyPost_ret (results_none rfl _ _ _) rfl ?_
  exact ⟨rfl, rfl⟩


set_option maxRecDepth 100000 in
set_option maxHeartbeats 800000 in
theorem ring_nil_ordered (w : World) : Calls Tryz.prog 22 #[.string ⟨#[79, 114, 100, 101, 114, 101, 100, 80, 97, 114, 116, 105, 116, 105, 111, 110, 101, 114]⟩, .slice none 0 0] w fun e w' =>
    e = .returned (.tuple #[.pointer (some ⟨w.heap.size, 0, none⟩), .nilIface]) ∧ w' = w.alloc (.cells #[.iface 61 (.agg #[]), .slice none 0 0, .slice none 0 0] 55) := by
  go_enter Tryz.func22, Tryz.ntmps22
  go_wp2_with fail
  refine (suf_om _).mono ?_
  rintro e w' ⟨rfl, rfl⟩
  go_wp2_with fail
  refine (suf_oo _).mono ?_
  rintro e w' ⟨rfl, rfl⟩
  go_wp2_with fail
  refine wp_loop_rounds 1 ?_
  rw [rounds_succ]
  go_wp2_with fail
  refine (sort_nil_ring w.heap.size _ (by simp)).mono ?_
  rintro e w' ⟨rfl, rfl⟩
  go_wp2_with fail
  go_ret2
  exact ⟨rfl, rfl⟩

theorem parse_ord (s : ByteArray) (w : World) : Calls Tryz.prog 94 #[.agg #[], .string s] w fun e w' => e = .returned (.iface 144 (.string s)) ∧ w.alloc (.cells #[] 61) = w' := by
  go_enter Tryz.func94, Tryz.ntmps94
  go_wp2
  go_ret
  exact ⟨rfl, rfl⟩

set_option maxRecDepth 100000 in
theorem less_ord (s t : ByteArray) (w : World) : Calls Tryz.prog 133 #[.string s, .iface 144 (.string t)] w fun e w' => e = .returned (.bool (Op.bytesLess s.toList t.toList)) ∧ w = w' := by
  have hT : ∀ s w, Sem.run Tryz.prog (Instr.typeAssert (.iface 144 (.string s)) 49 144 false) w = .ok (.string s) w := fun _ _ => by kernel_rfl
  go_enter Tryz.func133, Tryz.ntmps133
  go_wp2
  go_ret
  exact ⟨rfl, rfl⟩

theorem less_ab (w : World) : Calls Tryz.prog 133 #[.string ⟨#[97]⟩, .iface 144 (.string ⟨#[98]⟩)] w fun e w' => e = .returned (.bool true) ∧ w = w' :=
  (less_ord ⟨#[97]⟩ ⟨#[98]⟩ w).mono fun _ _ ⟨he, hw⟩ => ⟨by rw [he]; exact ret_bool (by decide +kernel), hw⟩

end Go.Proofs.YtcbpglkbeaebpaaGreat
