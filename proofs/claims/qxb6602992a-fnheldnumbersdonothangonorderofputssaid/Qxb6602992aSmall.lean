import Derived.Test.Qxb6602992aHeld
import Derived.Deep.RegionHeld3
import Derived.Deep.QuietTactic
import Derived.BigQuiet
import Derived.LoopTactic
namespace Go.Proofs.Qxb6602992a
open Go.RowKit
set_option linter.unusedVariables false

/-- A []uint64 that is read: its numbers are 'zs'. -/
def Rs (w : World) (a : Option Addr) (len : Nat) (zs : List Int) : Prop :=
  zs.length = len ∧ len ≤ 4096 ∧ (∀ n ∈ zs, U64 n) ∧
  (len = 0 ∨ ∃ b off, a = some ⟨b, off, none⟩ ∧ b < w.heap.size ∧ ∀ i, i < len → w.cell? ⟨b, off + i, none⟩ = some (.int .u64 (zs.getD i 0)))

theorem Rs.below {w w' : World} {a : Option Addr} {len : Nat} {zs : List Int} (h : Rs w a len zs) (hb : Below w.heap.size w w') : Rs w' a len zs := by
  obtain ⟨h1, h2, h3, h4⟩ := h
  refine ⟨h1, h2, h3, ?_⟩
  rcases h4 with h4 | ⟨b, off, rfl, hlt, hc⟩
  · exact .inl h4
  · refine .inr ⟨b, off, rfl, Nat.lt_of_lt_of_le hlt hb.size, fun i hi => ?_⟩
    rw [hb.cell (p := ⟨b, off + i, none⟩) hlt]; exact hc i hi

set_option maxHeartbeats 400000 in
theorem newHeld (w : World) : Calls Try.prog 28 #[] w fun e w' => e = .returned (.pointer (some ⟨w.heap.size, 0, none⟩)) ∧ w' = w.alloc (.cells #[.slice none 0 0, .map none] 62) := by
  go_enter Try.func28, Try.ntmps28
  go_wp2
  go_ret
  exact ⟨rfl, rfl⟩

set_option maxHeartbeats 400000 in
theorem viewAt_in (b off len cap : Nat) (i : Int) (x : Int) (w : World) (h0 : 0 ≤ i) (hi : i < len) (hl : len ≤ 4096) (hc : w.cell? ⟨b, off + i.toNat, none⟩ = some (.int .u64 x)) :
    Calls Try.prog 30 #[.slice (some ⟨b, off, none⟩) len cap, .int .i64 i] w fun e w' => e = .returned (.int .u64 x) ∧ w' = w := by
  go_enter Try.func30, Try.ntmps30
  go_wp2
  go_ret
  exact ⟨rfl, rfl⟩

set_option maxHeartbeats 400000 in
theorem viewAt_out (a : Option Addr) (len cap : Nat) (i : Int) (w : World) (h0 : 0 ≤ i) (hi : ¬ i < len) (hl : len ≤ 4096) :
    Calls Try.prog 30 #[.slice a len cap, .int .i64 i] w fun e w' => e = .returned (.int .u64 0) ∧ w' = w := by
  go_enter Try.func30, Try.ntmps30
  go_wp2
  go_ret
  exact ⟨rfl, rfl⟩

theorem viewAt_any (a : Option Addr) (len cap : Nat) (zs : List Int) (i : Nat) (w : World) (h : Rs w a len zs) :
    Calls Try.prog 30 #[.slice a len cap, .int .i64 (i : Int)] w fun e w' => e = .returned (.int .u64 (zs.getD i 0)) ∧ w' = w := by
  obtain ⟨h1, h2, h3, h4⟩ := h
  by_cases hi : i < len
  · rcases h4 with h4 | ⟨b, off, rfl, hlt, hc⟩
    · omega
    · exact viewAt_in b off len cap i _ w (by omega) (by omega) h2 (hc i hi)
  · have e : zs.getD i 0 = 0 := by simp [List.getD, List.getElem?_eq_none (show zs.length ≤ i by omega)]
    rw [e]
    exact viewAt_out a len cap i w (by omega) (by omega) h2

set_option maxHeartbeats 400000 in
theorem heldSeqs (hb : Nat) (sv : Value) (w : World) (o : Option Addr) (n cap : Nat) (hc : w.cell? ⟨hb, 0, none⟩ = some (.slice o n cap)) :
    Calls Try.prog 31 #[.pointer (some ⟨hb, 0, none⟩)] w fun e w' => e = .returned (.slice o n cap) ∧ w' = w := by
  go_enter Try.func31, Try.ntmps31
  go_wp2
  go_ret
  exact ⟨rfl, rfl⟩

set_option maxHeartbeats 400000 in
theorem heldCount (hb : Nat) (r : Option Nat) (c : Nat) (w : World) (hc : w.cell? ⟨hb, 1, none⟩ = some (.map r)) (hlen : ∀ ty, (Builtin.len_ #[60] ty #[.map r]).run Try.prog w = .ok (.int .i64 (c : Int)) w) :
    Calls Try.prog 32 #[.pointer (some ⟨hb, 0, none⟩)] w fun e w' => e = .returned (.int .i64 (c : Int)) ∧ w' = w := by
  go_enter Try.func32, Try.ntmps32
  go_wp2
  go_ret
  exact ⟨rfl, rfl⟩

set_option maxHeartbeats 400000 in
theorem bytes_no (a0 a1 : Option Addr) (l0 c0 l1 c1 : Nat) (w : World) (h0 : l0 ≤ maxLen) (h1 : l1 ≤ maxLen) (h : 1048576 < l0 + l1) :
    Calls Try.prog 34 #[.slice a0 l0 c0, .slice a1 l1 c1] w fun e w' => e = .returned (.bool false) ∧ w' = w := by
  unfold maxLen at h0 h1
  go_enter Try.func34, Try.ntmps34
  go_wp2
  all_goals
    go_ret
    exact ⟨rfl, rfl⟩

set_option maxHeartbeats 400000 in
theorem bytes_yes (a0 a1 : Option Addr) (l0 c0 l1 c1 : Nat) (w : World) (h : l0 + l1 ≤ 1048576) :
    Calls Try.prog 34 #[.slice a0 l0 c0, .slice a1 l1 c1] w fun e w' => e = .returned (.bool true) ∧ w' = w := by
  go_enter Try.func34, Try.ntmps34
  go_wp2
  go_ret
  exact ⟨rfl, rfl⟩

set_option maxHeartbeats 400000 in
/-- ZZHeldGet at a message that is there. -/
theorem heldGet (hb b : Nat) (x v a : Int) (w : World) (hc : w.cell? ⟨hb, 1, none⟩ = some (.map (some b))) (hbw : hb < w.heap.size)
    (hl : ∀ o, (Instr.lookup 60 (.map (some b)) (.int .u64 x) true).run Try.prog (w.alloc o) = .ok (.tuple #[msgV x v a, .bool true]) (w.alloc o)) :
    Calls Try.prog 33 #[.pointer (some ⟨hb, 0, none⟩), .int .u64 x] w fun e w' => e = .returned (.tuple #[msgV x v a, .bool true]) ∧ Below w.heap.size w w' := by
  unfold msgV msgCells at *
  go_enter Try.func33, Try.ntmps33
  go_wp2
  refine bodyPost_ret (v := .tuple #[.agg #[.string ⟨#[]⟩, .string ⟨#[]⟩, .int .u64 0, .int .u64 x, .int .u64 v, .int .u64 a, .slice none 0 0, .slice none 0 0, .int .u64 0, .slice none 0 0], .bool true]) (by simp [results, Try.results33, go_sem]) rfl ⟨rfl, ?_⟩
  exact ((Below.refl _ _).alloc (Nat.le_refl _) _).alloc (by simp) _

set_option maxHeartbeats 400000 in
/-- b1Equal at two rows of the same numbers. -/
theorem equal_same (a b : Option Addr) (n ca cb : Nat) (zs : List Int) (w : World) (ha : Rs w a n zs) (hb : Rs w b n zs) :
    Calls Try.prog 16 #[.slice a n ca, .slice b n cb] w fun e w' => e = .returned (.bool true) ∧ ∃ nd, w' = w.drewN nd := by
  obtain ⟨h1, h2, h3, h4⟩ := ha
  obtain ⟨_, _, _, k4⟩ := hb
  go_enter Try.func16, Try.ntmps16
  go_wp2
  go_loopw [5] (fun i wr => ∃ k nd : Nat, k ≤ n ∧ i = .int .i64 (k : Int) ∧ wr = w.drewN nd) (fun i _ => n - (intOf i).toNat)
  case atStart => exact ⟨0, 0, by omega, rfl, rfl⟩
  case round =>
    obtain ⟨k, nd, hk, rfl, rfl⟩ := hrel
    by_cases hlt : k < n
    · rcases h4 with h4 | ⟨ba, oa, rfl, hba, hca⟩
      · omega
      rcases k4 with k4 | ⟨bb, ob, rfl, hbb, hcb⟩
      · omega
      have xa := hca k hlt
      have xb := hcb k hlt
      generalize zs.getD k 0 = y at xa xb
      have g1 : (k : Int) < (n : Int) := by omega
      clear hca hcb
      go_wp2
      go_quiet (fail)
      go_wp2
      go_roundw
      case rel => exact ⟨k + 1, nd + nq, by omega, by go_num, by first | rfl | rw [World.drewN_drewN]⟩
      case measure => simp [intOf]; omega
    · go_wp2
      go_ret
      exact ⟨rfl, nd, rfl⟩

set_option maxHeartbeats 400000 in
theorem clone_some (x : Addr) (len cap : Nat) (zs : List Int) (w : World) (h : Rs w (some x) len zs) (hl : len ≤ 4096) :
    Calls Try.prog 14 #[.slice (some x) len cap] w fun e w' => ∃ a c, e = .returned (.slice a len c) ∧ Below w.heap.size w w' ∧ Rs w' a len zs := by
  have hmk := fun wx => run_make_row' (P := Try.prog) 22 23 (.int .u64 0) 8 Try.underlying22 info23 rfl .i64 .i64 len (by omega) (by omega) wx
  have heq := fun wx => Lib.run_eql_slice_nil (P := Try.prog) wx 22 23 (some x) len cap 0 0 Try.underlying22
  obtain ⟨h1, h2, h3, h4⟩ := h
  go_enter Try.func14, Try.ntmps14
  go_wp2
  clear hmk heq
  go_loopw [4] (fun i wr => ∃ j : Nat, j ≤ len ∧ i = .int .i64 (j : Int) ∧ Below w.heap.size w wr ∧ wr.rowIs w.heap.size 23 len (fun i => .int .u64 (if i < j then zs.getD i 0 else 0))) (fun i _ => len - (intOf i).toNat)
  case atStart => exact ⟨0, by omega, rfl, (Below.refl _ _).alloc (Nat.le_refl _) _, (World.rowIs_made w (.int .u64 0) len 23).congr fun i _ => by simp⟩
  case round =>
    obtain ⟨j, hj, rfl, hB, hr⟩ := hrel
    by_cases hlt : j < len
    · rcases h4 with h4 | ⟨b, off, hx, hb, hc⟩
      · omega
      obtain rfl : x = ⟨b, off, none⟩ := by simpa using hx
      have xa : wr.cell? ⟨b, off + j, none⟩ = some (.int .u64 (zs.getD j 0)) := by rw [hB.cell (p := ⟨b, off + j, none⟩) hb]; exact hc j hlt
      have xn : wr.cell? ⟨w.heap.size, j, none⟩ = some (.int .u64 0) := by rw [hr.cell hlt]; simp
      have xf := hr.frozen j
      generalize hy : zs.getD j 0 = y at xa
      have HY : Hid (zs.getD j 0 = y) := hy
      have HR : Hid (wr.rowIs w.heap.size 23 len (fun i => .int .u64 (if i < j then zs.getD i 0 else 0))) := hr
      clear hy hr hc
      go_wp2
      go_roundw
      case rel =>
        refine ⟨j + 1, by omega, by go_num, hB.setCell (Nat.le_refl _) _, (HR.out.set j (.int .u64 y)).congr fun i hi => ?_⟩
        by_cases e : i = j
        · subst e; rw [if_pos rfl, if_pos (by omega), HY.out]
        · rw [if_neg e]
          have : (i < j + 1) = (i < j) := by simp; omega
          simp only [this]
      case measure => simp [intOf]; omega
    · obtain rfl : j = len := by omega
      have HR : Hid (wr.rowIs w.heap.size 23 j (fun i => .int .u64 (if i < j then zs.getD i 0 else 0))) := hr
      clear hr
      go_wp2
      go_ret
      refine ⟨_, _, rfl, hB, h1, h2, h3, .inr ⟨w.heap.size, 0, rfl, HR.out.lt, fun i hi => ?_⟩⟩
      rw [Nat.zero_add, HR.out.cell hi, if_pos hi]

set_option maxHeartbeats 400000 in
theorem clone_nil (w : World) :
    Calls Try.prog 14 #[.slice none 0 0] w fun e w' => ∃ a c, e = .returned (.slice a 0 c) ∧ Below w.heap.size w w' ∧ Rs w' a 0 [] := by
  have heq := fun wx => Lib.run_eql_slice_nil (P := Try.prog) wx 22 23 none 0 0 0 0 Try.underlying22
  go_enter Try.func14, Try.ntmps14
  go_wp2
  go_ret
  exact ⟨none, 0, rfl, Below.refl _ _, rfl, by omega, by simp, .inl rfl⟩
end Go.Proofs.Qxb6602992a
