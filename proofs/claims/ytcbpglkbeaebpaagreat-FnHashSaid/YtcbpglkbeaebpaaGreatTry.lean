/- impl.try calls a function once and hands back its bool. Conditions: the function returns, and its result's cell lies in a new block. -/
import Derived.Test.YtcbpglkbeaebpaaGreatProg
import Derived.WalkKit
import Derived.WalkSpells
import Derived.WalkLawsBesides
import Derived.Defers
import Derived.Recover
import Derived.Laws.Pointers
import Derived.Lib.Hide
namespace Go.Proofs.YtcbpglkbeaebpaaGreat
open Go.RowKit

theorem tryRec_idle (p : Addr) (w : World) :
    CallsD Tryz.prog 21 #[.pointer (some p)] .returning w fun e u' w' => e = .returned (.tuple #[]) ∧ u' = .returning ∧ w' = w := by
  refine callsD_of_wpS Tryz.func21 rfl fun c₀ cs hu => ?_
  apply wpS_seq
  apply wpS_region
  simp [wpOpsS, go_sem, recoverD, hu, Tryz.ntmps21, Exit.thenS]
  refine wpS_cond (t := false) (by simp [Act.eval, Array.replicate]) ?_
  simp only [Bool.false_eq_true, if_false]
  refine wpS_of_wp (wp_skip ?_)
  cases c₀
  simp_all [bodyPostS, results, Tryz.results21]

theorem try_any (g : FuncId) (cap : Array Value) (b : Bool) (w : World) (R : World → Prop)
    (eg : ∀ args w, (callFunc g args).run Tryz.prog w = .ok (.enter g args) w)
    (hf : Calls Tryz.prog g cap (w.alloc (.cells #[.bool false] 4)) fun e w' => e = .returned (.bool b) ∧ R w' ∧ w'.cell? ⟨w.heap.size, 0, none⟩ = some (.bool false) ∧ w'.frozen? ⟨w.heap.size, 0, none⟩ = false) :
    Calls Tryz.prog 16 #[.func (.func g) #[] cap] w fun e w' => e = .returned (.bool b) ∧ ∃ w1, R w1 ∧ w' = w1.setCell ⟨w.heap.size, 0, none⟩ (.bool b) := by
  have hmf : ∀ (fn : Fn) (first cap : Array Value) (w : World), (Instr.makeFunc fn first cap).run Tryz.prog w = .ok (.func fn first cap) w := fun _ _ _ _ => rfl
  have H := Lib.hid hf
  clear hf
  go_enter_defers Tryz.func16, Tryz.ntmps16
  go_wp2_with fail
  refine (H.out).mono ?_
  rintro e w1 ⟨rfl, hR, hc, hz⟩
  go_wp2_with fail
  refine leaves_cons (f := 21) (args := #[.pointer (some ⟨w.heap.size, 0, none⟩)]) (by simp) (by simp [go_sem]) ?_
  refine (tryRec_idle ⟨w.heap.size, 0, none⟩ _).mono ?_
  rintro e u' w'' ⟨rfl, rfl, rfl⟩
  simp [Leaves, settle, results, Tryz.results16, go_sem, hc]
  exact ⟨w1, hR, rfl⟩
end Go.Proofs.YtcbpglkbeaebpaaGreat
