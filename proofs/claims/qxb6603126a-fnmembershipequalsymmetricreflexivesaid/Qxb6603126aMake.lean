import Derived.Test.Qxb6603126aBytes
import Derived.Deep.OwnRows
import Derived.Lib.SliceRun
import Derived.RegionTactic
import Derived.BigRegion
import Derived.Deep.RegionHeld3
namespace Go.Proofs.Qxb6603126a
open Go.RowKit
set_option linter.unusedVariables false

/-- What zzMembershipFits answers. -/
def FitB (l0 l1 l2 l3 : Nat) (e : Ending) : Prop := ∃ b, e = .returned (.bool b) ∧ (b = true → l1 = l0 ∧ l2 = l0 ∧ l3 = l0)

set_option maxHeartbeats 400000 in
theorem fits_any (a0 a1 a2 a3 : Option Addr) (l0 c0 l1 c1 l2 c2 l3 c3 : Nat) (w : World) :
    Calls Try.prog 22 #[.slice a0 l0 c0, .slice a1 l1 c1, .slice a2 l2 c2, .slice a3 l3 c3] w fun e w' => FitB l0 l1 l2 l3 e ∧ w' = w := by
  by_cases h1 : l1 = l0
  · by_cases h2 : l2 = l0
    · by_cases h3 : l3 = l0
      · subst h1 h2 h3
        go_enter Try.func22, Try.ntmps22
        go_wp2
        go_ret
        exact ⟨⟨_, rfl, fun _ => ⟨rfl, rfl, rfl⟩⟩, rfl⟩
      · have g1 : ((l3 : Int) == (l0 : Int)) = false := beq_eq_false_iff_ne.2 (by omega)
        subst h1 h2
        go_enter Try.func22, Try.ntmps22
        go_wp2
        go_ret
        exact ⟨⟨_, rfl, fun h => by cases h⟩, rfl⟩
    · have g1 : ((l2 : Int) == (l0 : Int)) = false := beq_eq_false_iff_ne.2 (by omega)
      subst h1
      go_enter Try.func22, Try.ntmps22
      go_wp2
      go_ret
      exact ⟨⟨_, rfl, fun h => by cases h⟩, rfl⟩
  · have g1 : ((l1 : Int) == (l0 : Int)) = false := beq_eq_false_iff_ne.2 (by omega)
    go_enter Try.func22, Try.ntmps22
    go_wp2
    go_ret
    exact ⟨⟨_, rfl, fun h => by cases h⟩, rfl⟩

theorem info58 : (Try.prog.info? 58).map (fun i => (i.zero, i.size, i.bytes)) = some (some (.agg #[.string ⟨#[]⟩, .string ⟨#[]⟩, .int .u64 0, .bool false]), 4, 48) := by kernel_rfl

/-- make([]Member, n). -/
theorem make_members (n : Nat) (hn : n ≤ 65536) (w : World) : (Instr.makeSlice 46 (.int .i64 (n : Int)) (.int .i64 (n : Int))).run Try.prog w =
    .ok (.slice (some ⟨w.heap.size, 0, none⟩) n n) (w.alloc (.cells (madeCells #[.string ⟨#[]⟩, .string ⟨#[]⟩, .int .u64 0, .bool false] (n * 4)) 58)) := by
  obtain ⟨i, hi, h⟩ := Option.map_eq_some_iff.1 info58
  simp only [Prod.mk.injEq] at h
  obtain ⟨hz, hs, hb⟩ := h
  have := run_make (P := Try.prog) w 46 58 i _ Try.underlying46 hi hz .i64 .i64 n n (by omega) (by omega) (by rw [hb]; omega) (by omega)
  rw [hs] at this
  simpa [Value.cells] using this

/-- Cell j of a row of members. -/
def memF (N Uf : Nat → ByteArray) (Sf : Nat → Int) (Lf : Nat → Bool) (j : Nat) : Value :=
  if j % 4 = 0 then .string (N (j / 4)) else if j % 4 = 1 then .string (Uf (j / 4)) else if j % 4 = 2 then .int .u64 (Sf (j / 4)) else .bool (Lf (j / 4))
def zeroF (j : Nat) : Value := if j % 4 = 0 then .string ⟨#[]⟩ else if j % 4 = 1 then .string ⟨#[]⟩ else if j % 4 = 2 then .int .u64 0 else .bool false

theorem start_row (w : World) (n : Nat) {N Uf : Nat → ByteArray} {Sf : Nat → Int} {Lf : Nat → Bool} : ∃ k : Nat, k ≤ n ∧ Value.int .i64 0 = .int .i64 (k : Int) ∧
    Below w.heap.size w ((w.alloc (.cells #[.slice none 0 0, .string ⟨#[]⟩] 48)).alloc (.cells (madeCells #[.string ⟨#[]⟩, .string ⟨#[]⟩, .int .u64 0, .bool false] (n * 4)) 58)) ∧
    ((w.alloc (.cells #[.slice none 0 0, .string ⟨#[]⟩] 48)).alloc (.cells (madeCells #[.string ⟨#[]⟩, .string ⟨#[]⟩, .int .u64 0, .bool false] (n * 4)) 58)).rowIs (w.heap.size + 1) 58 (n * 4) (fun j => if j < 4 * k then memF N Uf Sf Lf j else zeroF j) ∧
    ((w.alloc (.cells #[.slice none 0 0, .string ⟨#[]⟩] 48)).alloc (.cells (madeCells #[.string ⟨#[]⟩, .string ⟨#[]⟩, .int .u64 0, .bool false] (n * 4)) 58)).heap[w.heap.size]? = some (.cells #[.slice none 0 0, .string ⟨#[]⟩] 48 (0, 0)) := by
  refine ⟨0, Nat.zero_le _, rfl, ((Below.refl _ _).alloc (Nat.le_refl _) _).alloc (by simp) _, ?_, ?_⟩
  · have := World.rowIs_alloc (w.alloc (.cells #[.slice none 0 0, .string ⟨#[]⟩] 48)) (madeCells #[.string ⟨#[]⟩, .string ⟨#[]⟩, .int .u64 0, .bool false] (n * 4)) 58 (fun j => if j < 4 * 0 then memF N Uf Sf Lf j else zeroF j) (fun j hj => by
      rw [size_madeCells] at hj
      rw [if_neg (by omega)]
      unfold madeCells zeroF
      simp only [Array.getElem?_map, Array.getElem?_range, hj, if_true, Option.map_some, Option.some.injEq]
      have : j % 4 = 0 ∨ j % 4 = 1 ∨ j % 4 = 2 ∨ j % 4 = 3 := by omega
      rcases this with e | e | e | e <;> simp [e])
    rw [size_madeCells] at this
    simpa using this
  · rw [Below.heap_alloc _ _ _ (by simp)]
    exact Go.Deep.blk_alloc_new _ _

set_option maxHeartbeats 400000 in
set_option maxRecDepth 100000 in
theorem member_some (x : Addr) (a1 a2 a3 : Option Addr) (n c0 c1 c2 c3 : Nat) (key : ByteArray) (N Uf : Nat → ByteArray) (Sf : Nat → Int) (Lf : Nat → Bool) (w : World) (hn : n ≤ 65536)
    (h0 : Col w (some x) n (fun i => .string (N i))) (h1 : Col w a1 n (fun i => .string (Uf i))) (h2 : Col w a2 n (fun i => .int .u64 (Sf i))) (h3 : Col w a3 n (fun i => .bool (Lf i))) :
    Calls Try.prog 23 #[.slice (some x) n c0, .slice a1 n c1, .slice a2 n c2, .slice a3 n c3, .string key] w fun e w' =>
      e = .returned (.agg #[.slice (some ⟨w.heap.size + 1, 0, none⟩) n n, .string key]) ∧ Below w.heap.size w w' ∧ w'.rowIs (w.heap.size + 1) 58 (n * 4) (memF N Uf Sf Lf) := by
  have hmk := make_members n hn
  have heq := fun wx => run_neq_slice_nil_any (P := Try.prog) wx 41 9 (some x) n c0 0 0 Try.underlying41
  go_enter Try.func23, Try.ntmps23
  go_wp2
  clear hmk heq
  go_loopw [12] (fun i wr => ∃ k : Nat, k ≤ n ∧ i = .int .i64 (k : Int) ∧ Below w.heap.size w wr ∧ wr.rowIs (w.heap.size + 1) 58 (n * 4) (fun j => if j < 4 * k then memF N Uf Sf Lf j else zeroF j) ∧ wr.heap[w.heap.size]? = some (.cells #[.slice none 0 0, .string ⟨#[]⟩] 48 (0, 0))) (fun i _ => n - (intOf i).toNat)
  case atStart => exact start_row w n
  case round =>
    obtain ⟨k, hk, rfl, hB, hr, hres⟩ := hrel
    by_cases hlt : k < n
    · obtain ⟨b0, o0, hx, hb0, hc0⟩ := h0.at hlt
      obtain rfl : x = ⟨b0, o0, none⟩ := by simpa using hx
      obtain ⟨b1, o1, rfl, hb1, hc1⟩ := h1.at hlt
      obtain ⟨b2, o2, rfl, hb2, hc2⟩ := h2.at hlt
      obtain ⟨b3, o3, rfl, hb3, hc3⟩ := h3.at hlt
      have x0 : wr.cell? ⟨b0, o0 + k, none⟩ = some (.string (N k)) := by rw [hB.cell (p := ⟨b0, o0 + k, none⟩) hb0]; exact hc0
      have x1 : wr.cell? ⟨b1, o1 + k, none⟩ = some (.string (Uf k)) := by rw [hB.cell (p := ⟨b1, o1 + k, none⟩) hb1]; exact hc1
      have x2 : wr.cell? ⟨b2, o2 + k, none⟩ = some (.int .u64 (Sf k)) := by rw [hB.cell (p := ⟨b2, o2 + k, none⟩) hb2]; exact hc2
      have x3 : wr.cell? ⟨b3, o3 + k, none⟩ = some (.bool (Lf k)) := by rw [hB.cell (p := ⟨b3, o3 + k, none⟩) hb3]; exact hc3
      have hz : ∀ j, 4 * k ≤ j → j < n * 4 → wr.cell? ⟨w.heap.size + 1, j, none⟩ = some (zeroF j) := fun j h1 h2 => by rw [hr.cell h2, if_neg (by omega)]
      have y0 : wr.cell? ⟨w.heap.size + 1, k * 4, none⟩ = some (.string ⟨#[]⟩) := by rw [hz _ (by omega) (by omega)]; unfold zeroF; rw [if_pos (by omega)]
      have y1 : wr.cell? ⟨w.heap.size + 1, k * 4 + 1, none⟩ = some (.string ⟨#[]⟩) := by rw [hz _ (by omega) (by omega)]; unfold zeroF; rw [if_neg (by omega), if_pos (by omega)]
      have y2 : wr.cell? ⟨w.heap.size + 1, k * 4 + 2, none⟩ = some (.int .u64 0) := by rw [hz _ (by omega) (by omega)]; unfold zeroF; rw [if_neg (by omega), if_neg (by omega), if_pos (by omega)]
      have y3 : wr.cell? ⟨w.heap.size + 1, k * 4 + 3, none⟩ = some (.bool false) := by rw [hz _ (by omega) (by omega)]; unfold zeroF; rw [if_neg (by omega), if_neg (by omega), if_neg (by omega)]
      have yf : ∀ j, wr.frozen? ⟨w.heap.size + 1, j, none⟩ = false := fun j => hr.frozen j
      have HR : Hid (wr.rowIs (w.heap.size + 1) 58 (n * 4) (fun j => if j < 4 * k then memF N Uf Sf Lf j else zeroF j)) := hr
      have HRES : Hid (wr.heap[w.heap.size]? = some (.cells #[.slice none 0 0, .string ⟨#[]⟩] 48 (0, 0))) := hres
      generalize hN : N k = nm at x0
      generalize hU : Uf k = ur at x1
      generalize hS : Sf k = si at x2
      generalize hL : Lf k = le at x3
      have HV : Hid (N k = nm ∧ Uf k = ur ∧ Sf k = si ∧ Lf k = le) := ⟨hN, hU, hS, hL⟩
      clear hc0 hc1 hc2 hc3 hr hres hz
      clear hN hU hS hL
      go_wp2
      go_region
      go_wp2
      go_roundw
      case rel =>
        obtain ⟨hN, hU, hS, hL⟩ := HV.out
        refine ⟨k + 1, by omega, by go_num, ?_, ?_, ?_⟩
        · exact ((((hB.setCell (by simp) _).setCell (by simp) _).setCell (by simp) _).setCell (by simp) _).drew
        · refine ((((HR.out.set (k * 4) (.string nm)).set (k * 4 + 1) (.string ur)).set (k * 4 + 2) (.int .u64 si)).set (k * 4 + 3) (.bool le)).drew.congr fun j hj => ?_
          by_cases e3 : j = k * 4 + 3
          · rw [if_pos e3, if_pos (by omega)]; subst e3; unfold memF; rw [if_neg (by omega), if_neg (by omega), if_neg (by omega), show (k * 4 + 3) / 4 = k from by omega, hL]
          rw [if_neg e3]
          by_cases e2 : j = k * 4 + 2
          · rw [if_pos e2, if_pos (by omega)]; subst e2; unfold memF; rw [if_neg (by omega), if_neg (by omega), if_pos (by omega), show (k * 4 + 2) / 4 = k from by omega, hS]
          rw [if_neg e2]
          by_cases e1 : j = k * 4 + 1
          · rw [if_pos e1, if_pos (by omega)]; subst e1; unfold memF; rw [if_neg (by omega), if_pos (by omega), show (k * 4 + 1) / 4 = k from by omega, hU]
          rw [if_neg e1]
          by_cases e0 : j = k * 4
          · rw [if_pos e0, if_pos (by omega)]; subst e0; unfold memF; rw [if_pos (by omega), show (k * 4) / 4 = k from by omega, hN]
          rw [if_neg e0]
          have : (j < 4 * (k + 1)) = (j < 4 * k) := by simp; omega
          simp only [this]
        · show ((((wr.setCell _ _).setCell _ _).setCell _ _).setCell _ _).heap[w.heap.size]? = _
          rw [Below.heap_setCell _ _ _ _ (by simp), Below.heap_setCell _ _ _ _ (by simp), Below.heap_setCell _ _ _ _ (by simp), Below.heap_setCell _ _ _ _ (by simp)]
          exact HRES.out
      case measure => simp [intOf]; omega
    · obtain rfl : k = n := by omega
      have f1 : wr.cell? ⟨w.heap.size, 0, none⟩ = some (.slice none 0 0) := by simp [World.cell?, hres]
      have f2 : wr.cell? ⟨w.heap.size, 1, none⟩ = some (.string ⟨#[]⟩) := by simp [World.cell?, hres]
      have f3 : ∀ o, wr.frozen? ⟨w.heap.size, o, none⟩ = false := by intro o; simp [World.frozen?, hres]
      have HR : Hid (wr.rowIs (w.heap.size + 1) 58 (k * 4) (fun j => if j < 4 * k then memF N Uf Sf Lf j else zeroF j)) := hr
      clear hr hres
      go_wp2
      refine bodyPost_ret (v := .agg #[.slice (some ⟨w.heap.size + 1, 0, none⟩) k k, .string key]) (by simp [results, Try.results23, go_sem, f1, f2]) rfl ⟨rfl, ?_, ?_⟩
      · exact (hB.setCell (by simp) _).setCell (by simp) _
      · exact ((HR.out.setOther (by simp) _).setOther (by simp) _).congr fun j hj => by rw [if_pos (by omega)]

set_option maxHeartbeats 400000 in
theorem member_nil (a1 a2 a3 : Option Addr) (l1 l2 l3 c1 c2 c3 : Nat) (key : ByteArray) (w : World) :
    Calls Try.prog 23 #[.slice none 0 0, .slice a1 l1 c1, .slice a2 l2 c2, .slice a3 l3 c3, .string key] w fun e w' =>
      e = .returned (.agg #[.slice none 0 0, .string key]) ∧ Below w.heap.size w w' := by
  have heq := fun wx => run_neq_slice_nil_any (P := Try.prog) wx 41 9 none 0 0 0 0 Try.underlying41
  go_enter Try.func23, Try.ntmps23
  go_wp2
  refine bodyPost_ret (v := .agg #[.slice none 0 0, .string key]) (by simp [results, Try.results23, go_sem]) rfl ⟨rfl, ?_⟩
  exact (Below.refl _ _).alloc (Nat.le_refl _) _
end Go.Proofs.Qxb6603126a
