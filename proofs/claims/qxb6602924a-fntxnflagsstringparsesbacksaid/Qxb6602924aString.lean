import Derived.Test.Qxb6602924aProg
import Derived.WalkKit
import Derived.WalkSpells
import Derived.WalkLawsBesides
import Derived.RowKit3
import Derived.Outline
import Derived.Laws.BytesArg
namespace Go.Proofs.Qxb6602924a
open Go.RowKit
set_option linter.unusedVariables false

/-- What SHOW ITL prints of the two named bits. -/
def flagStr (c u : Bool) : ByteArray := ⟨#[if c then 67 else 45, 45, if u then 85 else 45, 45]⟩

theorem and_all : ∀ k : Fin 256, bits .and .u8 (k.val : Int) 3 = (if bits .and .u8 (k.val : Int) 1 != 0 then 1 else 0) + (if bits .and .u8 (k.val : Int) 2 != 0 then 2 else 0) := by decide +kernel

theorem and_three (f : Int) (h0 : 0 ≤ f) (h1 : f ≤ 255) : bits .and .u8 f 3 = (if bits .and .u8 f 1 != 0 then 1 else 0) + (if bits .and .u8 f 2 != 0 then 2 else 0) := by
  have := and_all ⟨f.toNat, by omega⟩
  simpa [Int.toNat_of_nonneg h0] using this

theorem conv_new (w : World) (c u : Int) : (convert 28 9 (.slice (some ⟨w.heap.size, 0, none⟩) 4 4)).run Try.prog (w.alloc (.cells #[.int .u8 c, .int .u8 45, .int .u8 u, .int .u8 45] 5)) =
    .ok (.string (strOfNums [c, 45, u, 45])) (w.alloc (.cells #[.int .u8 c, .int .u8 45, .int .u8 u, .int .u8 45] 5)) := by
  refine run_convert_bytes_arg _ 28 5 Try.underlying28 Try.underlying5 w.heap.size 0 4 4 [c, 45, u, 45] rfl (fun i hi => ?_) 9 Try.underlying9
  have : i = 0 ∨ i = 1 ∨ i = 2 ∨ i = 3 := by omega
  rcases this with rfl | rfl | rfl | rfl <;> simp

set_option maxHeartbeats 400000 in
theorem string_any (f : Int) (w : World) (b1 b2 : Bool) (e1 : (bits .and .u8 f 1 != 0) = b1) (e2 : (bits .and .u8 f 2 != 0) = b2) :
    Calls Try.prog 6 #[.int .u8 f] w fun e w' => e = .returned (.string (flagStr b1 b2)) ∧ Grown w w' := by
  have hcv := conv_new w
  cases b1 <;> cases b2
  all_goals
    go_enter Try.func6, Try.ntmps6
    go_wp2
    go_ret
    exact ⟨rfl, by repeat (first | exact Grown.refl _ | apply Grown.drew | apply Grown.alloc)⟩
end Go.Proofs.Qxb6602924a
