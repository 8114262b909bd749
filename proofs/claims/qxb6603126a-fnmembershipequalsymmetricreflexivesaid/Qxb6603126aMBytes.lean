import Derived.Test.Qxb6603126aBytes
namespace Go.Proofs.Qxb6603126a
open Go.RowKit
set_option linter.unusedVariables false

/-- What zzMembershipBytes answers: -1, or a number of at most 1<<20; then there are at most 65536 names. -/
def MB (l0 : Nat) (e : Ending) : Prop := ∃ r : Int, e = .returned (.int .i64 r) ∧ -1 ≤ r ∧ r ≤ 1048576 ∧ (0 ≤ r → l0 ≤ 65536)

theorem mb_neg (l0 : Nat) : MB l0 (.returned (.int .i64 (-1))) := ⟨-1, rfl, by omega, by omega, fun h => by omega⟩

set_option maxHeartbeats 1000000 in
set_option maxRecDepth 100000 in
theorem mbytes_any (a0 a1 a2 a3 : Option Addr) (l0 c0 l1 c1 l2 c2 l3 c3 : Nat) (k4 : ByteArray) (N0 N1 : Nat → ByteArray) (w : World)
    (h0 : Col w a0 l0 (fun i => .string (N0 i))) (h1 : Col w a1 l1 (fun i => .string (N1 i)))
    (b0 : l0 ≤ maxLen) (b1 : l1 ≤ maxLen) (b2 : l2 ≤ maxLen) (b3 : l3 ≤ maxLen) (b4 : k4.size ≤ maxLen)
    (s0 : Short N0 l0) (s1 : Short N1 l1) :
    Calls Try.prog 21 #[.slice a0 l0 c0, .slice a1 l1 c1, .slice a2 l2 c2, .slice a3 l3 c3, .string k4] w fun e w' => MB l0 e ∧ w' = w := by
  unfold maxLen at b0 b1 b2 b3 b4
  by_cases hA : 65536 < l0
  · go_enter Try.func21, Try.ntmps21
    go_wp2
    go_ret
    exact ⟨mb_neg _, rfl⟩
  by_cases hB : 65536 < l1
  · go_enter Try.func21, Try.ntmps21
    go_wp2
    go_ret
    exact ⟨mb_neg _, rfl⟩
  by_cases hC : 131072 < l2
  · go_enter Try.func21, Try.ntmps21
    go_wp2
    go_ret
    exact ⟨mb_neg _, rfl⟩
  by_cases hD : 1048576 < l3
  · go_enter Try.func21, Try.ntmps21
    go_wp2
    go_ret
    exact ⟨mb_neg _, rfl⟩
  by_cases hE : 1048576 < k4.size
  · go_enter Try.func21, Try.ntmps21
    go_wp2
    go_ret
    exact ⟨mb_neg _, rfl⟩
  clear b0 b1 b2 b3 b4
  go_enter Try.func21, Try.ntmps21
  go_upto_block 0 with (fail)
  all_goals first
    | (go_ret; exact ⟨mb_neg _, rfl⟩)
    | skip
  go_cut [11] from 14 (fun s11 w1 => Sum s11 ∧ w = w1)
  case first =>
    go_wp2
    go_loop [11, 12] (fun z i => ∃ k : Nat, k ≤ l0 ∧ i = .int .i64 (k : Int) ∧ Sum z) (fun _ i => l0 - (intOf i).toNat)
    case atStart => exact ⟨0, Nat.zero_le _, rfl, _, by omega, by omega, rfl⟩
    case round =>
      obtain ⟨k, hk, rfl, t, ht0, ht1, rfl⟩ := hrel
      by_cases hlt : k < l0
      · obtain ⟨b, off, rfl, hb, hc⟩ := h0.at hlt
        have hsz := s0 k hlt
        generalize N0 k = nm at hc hsz
        go_wp2
        all_goals first
          | (go_ret; exact ⟨mb_neg _, rfl⟩)
          | skip
        go_round
        case rel => exact ⟨k + 1, by omega, by go_num, _, by omega, by omega, rfl⟩
        case measure => simp [intOf]; omega
      · go_wp2
        go_meet
        case rel => exact ⟨⟨t, ht0, ht1, rfl⟩, rfl⟩
  case rest =>
    obtain ⟨⟨t, ht0, ht1, rfl⟩, rfl⟩ := hcut
    go_upto_block 2 with (fail)
    all_goals first
      | (go_ret; exact ⟨mb_neg _, rfl⟩)
      | skip
    go_cut [11] from 14 (fun s11 w1 => Sum s11 ∧ w = w1)
    case first =>
      go_wp2
      go_loop [11, 13] (fun z i => ∃ k : Nat, k ≤ l1 ∧ i = .int .i64 (k : Int) ∧ Sum z) (fun _ i => l1 - (intOf i).toNat)
      case atStart => exact ⟨0, Nat.zero_le _, rfl, _, by omega, by omega, rfl⟩
      case round =>
        obtain ⟨k, hk, rfl, t, ht0, ht1, rfl⟩ := hrel
        by_cases hlt : k < l1
        · obtain ⟨b, off, rfl, hb, hc⟩ := h1.at hlt
          have hsz := s1 k hlt
          generalize N1 k = nm at hc hsz
          go_wp2
          all_goals first
            | (go_ret; exact ⟨mb_neg _, rfl⟩)
            | skip
          go_round
          case rel => exact ⟨k + 1, by omega, by go_num, _, by omega, by omega, rfl⟩
          case measure => simp [intOf]; omega
        · go_wp2
          go_meet
          case rel => exact ⟨⟨t, ht0, ht1, rfl⟩, rfl⟩
    case rest =>
      obtain ⟨⟨t, ht0, ht1, rfl⟩, rfl⟩ := hcut
      go_wp2
      go_ret
      exact ⟨⟨t, rfl, by omega, ht1, fun _ => by omega⟩, rfl⟩
end Go.Proofs.Qxb6603126a
