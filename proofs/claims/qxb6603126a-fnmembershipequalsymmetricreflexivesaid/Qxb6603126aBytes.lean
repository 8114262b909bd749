import Derived.Test.Qxb6603126aProg
import Derived.WalkKit
import Derived.WalkSpells
import Derived.WalkLawsBesides
import Derived.Below
import Derived.Outline
import Derived.LoopTactic
import Derived.Deep.DeepCutAuto
import Derived.Deep.CutBlock
namespace Go.Proofs.Qxb6603126a
open Go.RowKit
set_option linter.unusedVariables false

/-- A slice that is read: cell i holds 'F i'. -/
def Col (w : World) (a : Option Addr) (len : Nat) (F : Nat → Value) : Prop :=
  len = 0 ∨ ∃ b off, a = some ⟨b, off, none⟩ ∧ b < w.heap.size ∧ ∀ i, i < len → w.cell? ⟨b, off + i, none⟩ = some (F i)

theorem Col.below {w w' : World} {a : Option Addr} {len : Nat} {F : Nat → Value} (h : Col w a len F) (hb : Below w.heap.size w w') : Col w' a len F := by
  rcases h with h | ⟨b, off, rfl, hlt, hc⟩
  · exact .inl h
  · refine .inr ⟨b, off, rfl, Nat.lt_of_lt_of_le hlt hb.size, fun i hi => ?_⟩
    rw [hb.cell (p := ⟨b, off + i, none⟩) hlt]; exact hc i hi

theorem Col.at {w : World} {a : Option Addr} {len : Nat} {F : Nat → Value} (h : Col w a len F) {i : Nat} (hi : i < len) : ∃ b off, a = some ⟨b, off, none⟩ ∧ b < w.heap.size ∧ w.cell? ⟨b, off + i, none⟩ = some (F i) := by
  rcases h with h | ⟨b, off, rfl, hlt, hc⟩
  · omega
  · exact ⟨b, off, rfl, hlt, hc i hi⟩

/-- Every string is of at most 1<<20 bytes. -/
def Short (N : Nat → ByteArray) (l : Nat) : Prop := ∀ i, i < l → (N i).size ≤ 1048576
theorem Short.snoc {N : Nat → ByteArray} {k : Nat} (h : Short N k) {nm : ByteArray} (hn : N k = nm) (hs : nm.size ≤ 1048576) : Short N (k + 1) := fun i hi => by
  by_cases e : i = k
  · subst e; rw [hn]; exact hs
  · exact h i (by omega)
/-- What zzBytes answers: true only if each string is short. -/
def IsB (N0 N1 N5 N6 : Nat → ByteArray) (l0 l1 l5 l6 : Nat) (e : Ending) : Prop := ∃ b, e = .returned (.bool b) ∧ (b = true → Short N0 l0 ∧ Short N1 l1 ∧ Short N5 l5 ∧ Short N6 l6)
theorem isB_no (N0 N1 N5 N6 : Nat → ByteArray) (l0 l1 l5 l6 : Nat) : IsB N0 N1 N5 N6 l0 l1 l5 l6 (.returned (.bool false)) := ⟨false, rfl, fun h => by cases h⟩
/-- What the sum so far is. -/
def Sum (v : Value) : Prop := ∃ t : Int, 0 ≤ t ∧ t ≤ 1048576 ∧ v = .int .i64 t

set_option maxHeartbeats 1000000 in
set_option maxRecDepth 100000 in
theorem bytes_any (a0 a1 a2 a3 a5 a6 a7 a8 : Option Addr) (l0 c0 l1 c1 l2 c2 l3 c3 l5 c5 l6 c6 l7 c7 l8 c8 : Nat) (k4 k9 : ByteArray) (N0 N1 N5 N6 : Nat → ByteArray) (w : World)
    (h0 : Col w a0 l0 (fun i => .string (N0 i))) (h1 : Col w a1 l1 (fun i => .string (N1 i))) (h5 : Col w a5 l5 (fun i => .string (N5 i))) (h6 : Col w a6 l6 (fun i => .string (N6 i)))
    (b0 : l0 ≤ maxLen) (b1 : l1 ≤ maxLen) (b2 : l2 ≤ maxLen) (b3 : l3 ≤ maxLen) (b5 : l5 ≤ maxLen) (b6 : l6 ≤ maxLen) (b7 : l7 ≤ maxLen) (b8 : l8 ≤ maxLen) (b4 : k4.size ≤ maxLen) (b9 : k9.size ≤ maxLen)
    (s0 : ∀ i, (N0 i).size ≤ maxLen) (s1 : ∀ i, (N1 i).size ≤ maxLen) (s5 : ∀ i, (N5 i).size ≤ maxLen) (s6 : ∀ i, (N6 i).size ≤ maxLen) :
    Calls Try.prog 20 #[.slice a0 l0 c0, .slice a1 l1 c1, .slice a2 l2 c2, .slice a3 l3 c3, .string k4, .slice a5 l5 c5, .slice a6 l6 c6, .slice a7 l7 c7, .slice a8 l8 c8, .string k9] w fun e w' => IsB N0 N1 N5 N6 l0 l1 l5 l6 e ∧ w' = w := by
  unfold maxLen at b0 b1 b2 b3 b4 b5 b6 b7 b8 b9 s0 s1 s5 s6
  go_enter Try.func20, Try.ntmps20
  go_upto_block 0 with (fail)
  any_goals (go_ret; exact ⟨isB_no .., rfl⟩)
  go_cut [21] from 26 (fun s21 w1 => Sum s21 ∧ Short N0 l0 ∧ w = w1)
  case first =>
    go_wp2
    go_loop [21, 22] (fun z i => ∃ k : Nat, k ≤ l0 ∧ i = .int .i64 (k : Int) ∧ Sum z ∧ Short N0 k) (fun _ i => l0 - (intOf i).toNat)
    case atStart => exact ⟨0, Nat.zero_le _, rfl, ⟨_, by omega, by omega, rfl⟩, fun i hi => by omega⟩
    case round =>
      obtain ⟨k, hk, rfl, ⟨t, ht0, ht1, rfl⟩, hsh⟩ := hrel
      by_cases hlt : k < l0
      · obtain ⟨b, off, rfl, hb, hc⟩ := h0.at hlt
        have hsz := s0 k
        generalize hnm : N0 k = nm at hc hsz
        have HNM : Hid (N0 k = nm) := hnm
        clear hnm
        go_wp2
        all_goals first
          | (go_ret; exact ⟨isB_no .., rfl⟩)
          | skip
        go_round
        case rel => exact ⟨k + 1, by omega, by go_num, ⟨_, by omega, by omega, rfl⟩, hsh.snoc HNM.out (by omega)⟩
        case measure => simp [intOf]; omega
      · go_wp2
        go_meet
        case rel => exact ⟨⟨t, ht0, ht1, rfl⟩, by obtain rfl : k = l0 := (by omega); exact hsh, rfl⟩
  case rest =>
    obtain ⟨⟨t, ht0, ht1, rfl⟩, sh0, rfl⟩ := hcut
    go_upto_block 2 with (fail)
    any_goals (go_ret; exact ⟨isB_no .., rfl⟩)
    go_cut [21] from 26 (fun s21 w1 => Sum s21 ∧ Short N1 l1 ∧ w = w1)
    case first =>
      go_wp2
      go_loop [21, 23] (fun z i => ∃ k : Nat, k ≤ l1 ∧ i = .int .i64 (k : Int) ∧ Sum z ∧ Short N1 k) (fun _ i => l1 - (intOf i).toNat)
      case atStart => exact ⟨0, Nat.zero_le _, rfl, ⟨_, by omega, by omega, rfl⟩, fun i hi => by omega⟩
      case round =>
        obtain ⟨k, hk, rfl, ⟨t, ht0, ht1, rfl⟩, hsh⟩ := hrel
        by_cases hlt : k < l1
        · obtain ⟨b, off, rfl, hb, hc⟩ := h1.at hlt
          have hsz := s1 k
          generalize hnm : N1 k = nm at hc hsz
          have HNM : Hid (N1 k = nm) := hnm
          clear hnm
          go_wp2
          all_goals first
            | (go_ret; exact ⟨isB_no .., rfl⟩)
            | skip
          go_round
          case rel => exact ⟨k + 1, by omega, by go_num, ⟨_, by omega, by omega, rfl⟩, hsh.snoc HNM.out (by omega)⟩
          case measure => simp [intOf]; omega
        · go_wp2
          go_meet
          case rel => exact ⟨⟨t, ht0, ht1, rfl⟩, by obtain rfl : k = l1 := (by omega); exact hsh, rfl⟩
    case rest =>
      obtain ⟨⟨t, ht0, ht1, rfl⟩, sh1, rfl⟩ := hcut
      go_upto_block 4 with (fail)
      any_goals (go_ret; exact ⟨isB_no .., rfl⟩)
      go_cut [21] from 26 (fun s21 w1 => Sum s21 ∧ Short N5 l5 ∧ w = w1)
      case first =>
        go_wp2
        go_loop [21, 24] (fun z i => ∃ k : Nat, k ≤ l5 ∧ i = .int .i64 (k : Int) ∧ Sum z ∧ Short N5 k) (fun _ i => l5 - (intOf i).toNat)
        case atStart => exact ⟨0, Nat.zero_le _, rfl, ⟨_, by omega, by omega, rfl⟩, fun i hi => by omega⟩
        case round =>
          obtain ⟨k, hk, rfl, ⟨t, ht0, ht1, rfl⟩, hsh⟩ := hrel
          by_cases hlt : k < l5
          · obtain ⟨b, off, rfl, hb, hc⟩ := h5.at hlt
            have hsz := s5 k
            generalize hnm : N5 k = nm at hc hsz
            have HNM : Hid (N5 k = nm) := hnm
            clear hnm
            go_wp2
            all_goals first
              | (go_ret; exact ⟨isB_no .., rfl⟩)
              | skip
            go_round
            case rel => exact ⟨k + 1, by omega, by go_num, ⟨_, by omega, by omega, rfl⟩, hsh.snoc HNM.out (by omega)⟩
            case measure => simp [intOf]; omega
          · go_wp2
            go_meet
            case rel => exact ⟨⟨t, ht0, ht1, rfl⟩, by obtain rfl : k = l5 := (by omega); exact hsh, rfl⟩
      case rest =>
        obtain ⟨⟨t, ht0, ht1, rfl⟩, sh2, rfl⟩ := hcut
        go_upto_block 6 with (fail)
        any_goals (go_ret; exact ⟨isB_no .., rfl⟩)
        go_cut [21] from 26 (fun s21 w1 => Sum s21 ∧ Short N6 l6 ∧ w = w1)
        case first =>
          go_wp2
          go_loop [21, 25] (fun z i => ∃ k : Nat, k ≤ l6 ∧ i = .int .i64 (k : Int) ∧ Sum z ∧ Short N6 k) (fun _ i => l6 - (intOf i).toNat)
          case atStart => exact ⟨0, Nat.zero_le _, rfl, ⟨_, by omega, by omega, rfl⟩, fun i hi => by omega⟩
          case round =>
            obtain ⟨k, hk, rfl, ⟨t, ht0, ht1, rfl⟩, hsh⟩ := hrel
            by_cases hlt : k < l6
            · obtain ⟨b, off, rfl, hb, hc⟩ := h6.at hlt
              have hsz := s6 k
              generalize hnm : N6 k = nm at hc hsz
              have HNM : Hid (N6 k = nm) := hnm
              clear hnm
              go_wp2
              all_goals first
                | (go_ret; exact ⟨isB_no .., rfl⟩)
                | skip
              go_round
              case rel => exact ⟨k + 1, by omega, by go_num, ⟨_, by omega, by omega, rfl⟩, hsh.snoc HNM.out (by omega)⟩
              case measure => simp [intOf]; omega
            · go_wp2
              go_meet
              case rel => exact ⟨⟨t, ht0, ht1, rfl⟩, by obtain rfl : k = l6 := (by omega); exact hsh, rfl⟩
        case rest =>
          obtain ⟨⟨t, ht0, ht1, rfl⟩, sh3, rfl⟩ := hcut
          go_wp2
          all_goals first
            | (go_ret; exact ⟨isB_no .., rfl⟩)
            | (go_ret; exact ⟨⟨true, rfl, fun _ => ⟨sh0, sh1, sh2, sh3⟩⟩, rfl⟩)
end Go.Proofs.Qxb6603126a
