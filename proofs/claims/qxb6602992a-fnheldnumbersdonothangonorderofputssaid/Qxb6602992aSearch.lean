import Derived.Test.Qxb6602992aProg
import Derived.WalkKit
import Derived.WalkSpells
import Derived.WalkLawsBesides
import Derived.Below
import Derived.Outline
import Derived.LoopTactic
namespace Go.Proofs.Qxb6602992a
open Go.RowKit
set_option linter.unusedVariables false

set_option maxHeartbeats 400000 in
theorem less_any (x y : Int) (w : World) : Calls Try.prog 44 #[.int .u64 x, .int .u64 y] w fun e w' => e = .returned (.bool (decide (x < y))) ∧ w' = w := by
  go_enter Try.func44, Try.ntmps44
  go_wp2
  go_ret
  exact ⟨rfl, rfl⟩

def Lows (zs : List Int) (x : Int) (lo : Nat) : Prop := ∀ j, j < lo → zs.getD j 0 < x
def Highs (zs : List Int) (x : Int) (n hi : Nat) : Prop := ∀ j, hi ≤ j → j < n → ¬ zs.getD j 0 < x

theorem lb_unique {zs : List Int} {x : Int} {n p q : Nat} (hp : p ≤ n) (hq : q ≤ n) (lp : Lows zs x p) (hhp : Highs zs x n p) (lq : Lows zs x q) (hhq : Highs zs x n q) : p = q := by
  by_cases h : p < q
  · exact absurd (lq p h) (hhp p (Nat.le_refl _) (by omega))
  · by_cases h2 : q < p
    · exact absurd (lp q h2) (hhq q (Nat.le_refl _) (by omega))
    · omega

set_option maxHeartbeats 800000 in
/-- slices.BinarySearch: the first place at which no lesser number stands. -/
theorem search_any (b off n c : Nat) (x : Int) (zs : List Int) (w : World) (hn : n ≤ 1048576) (hc : ∀ i, i < n → w.cell? ⟨b, off + i, none⟩ = some (.int .u64 (zs.getD i 0)))
    (hs : ∀ i j, i < j → j < n → zs.getD i 0 < zs.getD j 0) (hnot : ∀ i, i < n → zs.getD i 0 ≠ x) (p : Nat) (hp : p ≤ n) (lp : Lows zs x p) (hhp : Highs zs x n p) :
    Calls Try.prog 42 #[.slice (some ⟨b, off, none⟩) n c, .int .u64 x] w fun e w' => e = .returned (.tuple #[.int .i64 (p : Int), .bool false]) ∧ w' = w := by
  have HS : Hid (∀ i j, i < j → j < n → zs.getD i 0 < zs.getD j 0) := hs
  have HC : Hid (∀ i, i < n → w.cell? ⟨b, off + i, none⟩ = some (.int .u64 (zs.getD i 0))) := hc
  have HNO : Hid (∀ i, i < n → zs.getD i 0 ≠ x) := hnot
  clear hs hc hnot
  go_enter Try.func42, Try.ntmps42
  go_wp2
  go_loop [7, 8] (fun i j => ∃ lo hi : Nat, lo ≤ hi ∧ hi ≤ n ∧ i = .int .i64 (lo : Int) ∧ j = .int .i64 (hi : Int) ∧ Lows zs x lo ∧ Highs zs x n hi) (fun i j => ((intOf j) - (intOf i)).toNat)
  case atStart => exact ⟨0, n, by omega, by omega, rfl, rfl, fun j h => by omega, fun j h1 h2 => by omega⟩
  case round =>
    obtain ⟨lo, hi, h1, h2, rfl, rfl, HL, HH⟩ := hrel
    by_cases hlt : lo < hi
    · have hcm := HC.out ((lo + hi) / 2) (by omega)
      generalize hy : zs.getD ((lo + hi) / 2) 0 = y at hcm
      have HY : Hid (zs.getD ((lo + hi) / 2) 0 = y) := hy
      clear hy
      by_cases hyx : y < x
      · go_wp2_with (go_at_call 44; refine (less_any _ _ _).mono ?_; rintro e w' ⟨rfl, rfl⟩)
        go_round
        case rel =>
          refine ⟨(lo + hi) / 2 + 1, hi, by omega, by omega, by go_num, rfl, fun j hj => ?_, HH⟩
          by_cases e : j = (lo + hi) / 2
          · subst e; rw [HY.out]; exact hyx
          · have := HS.out j ((lo + hi) / 2) (by omega) (by omega)
            rw [HY.out] at this; omega
        case measure => simp [intOf]; omega
      · go_wp2_with (go_at_call 44; refine (less_any _ _ _).mono ?_; rintro e w' ⟨rfl, rfl⟩)
        go_round
        case rel =>
          refine ⟨lo, (lo + hi) / 2, by omega, by omega, rfl, by go_num, HL, fun j hj hjn => ?_⟩
          by_cases e : j = (lo + hi) / 2
          · subst e; rw [HY.out]; omega
          · have := HS.out ((lo + hi) / 2) j (by omega) hjn
            rw [HY.out] at this; omega
        case measure => simp [intOf]; omega
    · obtain rfl : lo = hi := by omega
      obtain rfl : lo = p := lb_unique h2 hp HL HH lp hhp
      by_cases hln : lo < n
      · have hcm := HC.out lo hln
        have hyx := HNO.out lo hln
        generalize zs.getD lo 0 = y at hcm hyx
        have hq : (y == x) = false := by simpa using hyx
        clear hyx
        go_wp2
        go_ret2
        exact ⟨rfl, rfl⟩
      · go_wp2
        go_ret2
        exact ⟨rfl, rfl⟩
end Go.Proofs.Qxb6602992a
