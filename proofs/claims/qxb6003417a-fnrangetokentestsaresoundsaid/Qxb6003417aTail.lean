import Derived.Test.Qxb6003417aLeaf
import Derived.Deep.OwnRows
import Derived.Deep.AppendLies
import Derived.Deep.RegionHeld3
import Derived.LoopTactic
import Derived.RegionTactic
import Derived.BigRegion
import Derived.Deep.DeepCutAuto
namespace Go.Proofs.Qxb6003417a
open Go.RowKit
set_option linter.unusedVariables false

theorem or_hi : ∀ k : Fin 16, bits .or .u8 0 ((k.val : Int) * 16) = (k.val : Int) * 16 := by decide +kernel
theorem or_lo : ∀ k : Fin 256, bits .or .u8 ((k.val : Int) / 16 * 16) ((k.val : Int) % 16) = (k.val : Int) := by decide +kernel
theorem or_hi' (t : Int) (h0 : 0 ≤ t) (h1 : t ≤ 15) : bits .or .u8 0 (t * 16) = t * 16 := by
  have := or_hi ⟨t.toNat, by omega⟩
  simpa [Int.toNat_of_nonneg h0] using this
theorem or_lo' (x : Int) (h0 : 0 ≤ x) (h1 : x ≤ 255) : bits .or .u8 (x / 16 * 16) (x % 16) = x := by
  have := or_lo ⟨x.toNat, by omega⟩
  simpa [Int.toNat_of_nonneg h0] using this

theorem grown_set (w : World) (g o : Nat) (v : Value) (ob : Obj) : w.grownBy ((w.setCell ⟨g, o, none⟩ v).alloc ob) (some g) :=
  ⟨rfl, rfl, rfl, by simp [World.setCell], fun k hk hne => by
    rw [Below.heap_alloc _ _ _ (by simpa [World.setCell] using hk), Below.heap_setCell _ _ _ _ (by intro h; apply hne; rw [h])]⟩

set_option maxHeartbeats 400000 in
theorem set_even (g m cap : Nat) (n i t : Int) (w : World) (h0 : 0 ≤ i) (hi : i < 2 * m) (hev : (i % 2 == 0) = true) (hl : m ≤ 1048576) (ht0 : 0 ≤ t) (ht : t ≤ 15) (hb : g < w.heap.size)
    (hc : w.cell? ⟨g, (i / 2).toNat, none⟩ = some (.int .u8 0)) (hf : w.frozen? ⟨g, (i / 2).toNat, none⟩ = false) :
    Calls Try.prog 63 #[.agg #[.slice (some ⟨g, 0, none⟩) m cap, .int .i64 n], .int .i64 i, .int .u8 t] w fun e w' => e = .returned (.tuple #[]) ∧
      w' = (w.setCell ⟨g, (i / 2).toNat, none⟩ (.int .u8 (bits .or .u8 0 (t * 16)))).alloc (.cells #[.slice (some ⟨g, 0, none⟩) m cap, .int .i64 n] 70) := by
  go_enter Try.func63, Try.ntmps63
  go_wp2
  go_end0
  exact ⟨rfl, rfl⟩
set_option maxHeartbeats 400000 in
theorem set_odd (g m cap : Nat) (n i t x : Int) (w : World) (h0 : 0 ≤ i) (hi : i < 2 * m) (hev : (i % 2 == 0) = false) (hl : m ≤ 1048576) (hx0 : 0 ≤ x) (hx : x ≤ 255) (hb : g < w.heap.size)
    (hc : w.cell? ⟨g, (i / 2).toNat, none⟩ = some (.int .u8 x)) (hf : w.frozen? ⟨g, (i / 2).toNat, none⟩ = false) :
    Calls Try.prog 63 #[.agg #[.slice (some ⟨g, 0, none⟩) m cap, .int .i64 n], .int .i64 i, .int .u8 t] w fun e w' => e = .returned (.tuple #[]) ∧
      w' = (w.setCell ⟨g, (i / 2).toNat, none⟩ (.int .u8 (bits .or .u8 x t))).alloc (.cells #[.slice (some ⟨g, 0, none⟩) m cap, .int .i64 n] 70) := by
  go_enter Try.func63, Try.ntmps63
  go_wp2
  go_end0
  exact ⟨rfl, rfl⟩

theorem getD_bd {zs : List Int} (h : ∀ n ∈ zs, 0 ≤ n ∧ n ≤ 255) (i : Nat) : 0 ≤ zs.getD i 0 ∧ zs.getD i 0 ≤ 255 := by
  by_cases hl : i < zs.length
  · have e : zs.getD i 0 = zs[i] := by simp [List.getD, List.getElem?_eq_getElem hl]
    rw [e]; exact h _ (List.getElem_mem hl)
  · have e : zs.getD i 0 = 0 := by simp [List.getD, List.getElem?_eq_none (Nat.le_of_not_lt hl)]
    rw [e]; omega

/-- One token set: the row goes from j tokens to j + 1. -/
theorem set_any (g m cap : Nat) (n : Int) (j : Nat) (k : List Int) (w : World) (hj : j < 2 * m) (hl : m ≤ 1048576) (hk : ∀ n ∈ k, 0 ≤ n ∧ n ≤ 255)
    (hr : w.rowIs g 5 m (fun i => .int .u8 (tailAt k j i))) :
    Calls Try.prog 63 #[.agg #[.slice (some ⟨g, 0, none⟩) m cap, .int .i64 n], .int .i64 (j : Int), .int .u8 (tok k j)] w fun e w' => e = .returned (.tuple #[]) ∧
      w.grownBy w' (some g) ∧ w'.rowIs g 5 m (fun i => .int .u8 (tailAt k (j + 1) i)) := by
  have e2 : ((j : Int) / 2).toNat = j / 2 := by omega
  have hbd := getD_bd hk (j / 2)
  by_cases hev : j % 2 = 0
  · have hc := hr.cell (i := j / 2) (by omega)
    have e0 : tailAt k j (j / 2) = 0 := by unfold tailAt; rw [if_neg (by omega), if_neg (by omega)]
    rw [e0] at hc
    have et : tok k j = k.getD (j / 2) 0 / 16 := by unfold tok; rw [if_pos hev]
    rw [et]
    refine (set_even g m cap n j _ w (by omega) (by omega) (by simp; omega) hl (by omega) (by omega) hr.lt (by rw [e2]; exact hc) (by rw [e2]; exact hr.frozen _)).mono ?_
    rintro e w' ⟨rfl, rfl⟩
    refine ⟨rfl, grown_set _ _ _ _ _, ((hr.set _ _).alloc _).congr fun i hi => ?_⟩
    rw [e2, or_hi' _ (by omega) (by omega)]
    by_cases h : i = j / 2
    · rw [if_pos h]; subst h
      have : tailAt k (j + 1) (j / 2) = k.getD (j / 2) 0 / 16 * 16 := by unfold tailAt; rw [if_neg (by omega), if_pos (by omega)]
      rw [this]
    · rw [if_neg h]
      have : tailAt k (j + 1) i = tailAt k j i := by
        unfold tailAt
        have a1 : (2 * i + 1 < j + 1) = (2 * i + 1 < j) := by simp; omega
        have a2 : (2 * i < j + 1) = (2 * i < j) := by simp; omega
        simp only [a1, a2]
      rw [this]
  · have hc := hr.cell (i := j / 2) (by omega)
    have e0 : tailAt k j (j / 2) = k.getD (j / 2) 0 / 16 * 16 := by unfold tailAt; rw [if_neg (by omega), if_pos (by omega)]
    rw [e0] at hc
    have et : tok k j = k.getD (j / 2) 0 % 16 := by unfold tok; rw [if_neg hev]
    rw [et]
    refine (set_odd g m cap n j (k.getD (j / 2) 0 % 16) (k.getD (j / 2) 0 / 16 * 16) w (by omega) (by omega) (by simp; omega) hl (by omega) (by omega) hr.lt (by rw [e2]; exact hc) (by rw [e2]; exact hr.frozen _)).mono ?_
    rintro e w' ⟨rfl, rfl⟩
    refine ⟨rfl, grown_set _ _ _ _ _, ((hr.set _ _).alloc _).congr fun i hi => ?_⟩
    rw [e2, or_lo' (k.getD (j / 2) 0) (by omega) (by omega)]
    by_cases h : i = j / 2
    · rw [if_pos h]; subst h
      have : tailAt k (j + 1) (j / 2) = k.getD (j / 2) 0 := by unfold tailAt; rw [if_pos (by omega)]
      rw [this]
    · rw [if_neg h]
      have : tailAt k (j + 1) i = tailAt k j i := by
        unfold tailAt
        have a1 : (2 * i + 1 < j + 1) = (2 * i + 1 < j) := by simp; omega
        have a2 : (2 * i < j + 1) = (2 * i < j) := by simp; omega
        simp only [a1, a2]
      rw [this]

theorem at_nat (a : Option Addr) (len cap : Nat) (n : Int) (j : Nat) (zs : List Int) (w : World) (h : Bs w a len zs) (hj : j < 2 * len) :
    Calls Try.prog 50 #[.agg #[.slice a len cap, .int .i64 n], .int .i64 (j : Int)] w fun e w' => e = .returned (.int .u8 (tok zs j)) ∧ Below w.heap.size w w' :=
  at_any a len cap n j zs w h (by omega) (by omega)

theorem info5 : (Try.prog.info? 5).map (fun i => (i.zero, i.size, i.bytes)) = some (some (.int .u8 0), 1, 1) := by kernel_rfl

/-- What stands where 't := path{..}' has been laid, whatever the order: block g the new bytes, block t the path. -/
def TailCut (w : World) (a : Option Addr) (len cap pn m : Nat) (s5 : Value) (wc : World) : Prop :=
  ∃ g t, s5 = .pointer (some ⟨t, 0, none⟩) ∧ Below w.heap.size w wc ∧
    wc.cell? ⟨w.heap.size, 0, none⟩ = some (.slice a len cap) ∧ wc.cell? ⟨w.heap.size, 1, none⟩ = some (.int .i64 (pn : Int)) ∧
    wc.heap[w.heap.size + 1]? = some (.cells #[.slice none 0 0, .int .i64 0] 70) ∧
    wc.cell? ⟨t, 0, none⟩ = some (.slice (some ⟨g, 0, none⟩) m m) ∧ wc.cell? ⟨t, 1, none⟩ = some (.int .i64 (pn : Int)) ∧
    wc.rowIs g 5 m (fun _ => .int .u8 0) ∧ w.heap.size + 1 < g ∧ w.heap.size + 1 < t ∧ g ≠ t ∧ t < wc.heap.size

theorem blk4 (w : World) (o0 o1 o2 o3 : Obj) :
    (((((w.alloc o0).alloc o1).alloc o2).alloc o3).drew.heap[w.heap.size]? = some o0) ∧ (((((w.alloc o0).alloc o1).alloc o2).alloc o3).drew.heap[w.heap.size + 1]? = some o1) ∧
    (((((w.alloc o0).alloc o1).alloc o2).alloc o3).drew.heap[w.heap.size + 1 + 1]? = some o2) ∧ (((((w.alloc o0).alloc o1).alloc o2).alloc o3).drew.heap[w.heap.size + 1 + 1 + 1]? = some o3) := by
  show ((((w.heap.push o0).push o1).push o2).push o3)[w.heap.size]? = some o0 ∧ ((((w.heap.push o0).push o1).push o2).push o3)[w.heap.size + 1]? = some o1 ∧ ((((w.heap.push o0).push o1).push o2).push o3)[w.heap.size + 1 + 1]? = some o2 ∧ ((((w.heap.push o0).push o1).push o2).push o3)[w.heap.size + 1 + 1 + 1]? = some o3
  simp only [Array.getElem?_push, Array.size_push]
  refine ⟨?_, ?_, ?_, ?_⟩
  · rw [if_neg (by omega), if_neg (by omega), if_neg (by omega), if_pos trivial]
  · rw [if_neg (by omega), if_neg (by omega), if_pos trivial]
  · rw [if_neg (by omega), if_pos trivial]
  · rw [if_pos trivial]

theorem below4 (w : World) (o0 o1 o2 o3 : Obj) : Below w.heap.size w ((((w.alloc o0).alloc o1).alloc o2).alloc o3).drew :=
  (((((Below.refl _ _).alloc (Nat.le_refl _) _).alloc (by simp) _).alloc (by simp; omega) _).alloc (by simp; omega) _).drew

theorem row_made {W : World} {g m : Nat} (h : W.heap[g]? = some (.cells (madeCells #[.int .u8 0] m) 5)) : W.rowIs g 5 m (fun _ => .int .u8 0) :=
  ⟨_, h, size_madeCells _ _, fun i hi => by simp [madeCells, hi, Nat.mod_one]⟩

theorem meetA (w : World) (a : Option Addr) (len cap pn m : Nat) : TailCut w a len cap pn m (.pointer (some ⟨w.heap.size + 1 + 1 + 1, 0, none⟩))
    ((((w.alloc (.cells #[.slice a len cap, .int .i64 (pn : Int)] 70)).alloc (.cells #[.slice none 0 0, .int .i64 0] 70)).alloc (.cells (madeCells #[.int .u8 0] m) 5)).alloc (.cells #[.slice (some ⟨w.heap.size + 1 + 1, 0, none⟩) m m, .int .i64 (pn : Int)] 70)).drew := by
  obtain ⟨h0, h1, h2, h3⟩ := blk4 w (.cells #[.slice a len cap, .int .i64 (pn : Int)] 70) (.cells #[.slice none 0 0, .int .i64 0] 70) (.cells (madeCells #[.int .u8 0] m) 5) (.cells #[.slice (some ⟨w.heap.size + 1 + 1, 0, none⟩) m m, .int .i64 (pn : Int)] 70)
  refine ⟨w.heap.size + 1 + 1, w.heap.size + 1 + 1 + 1, rfl, below4 _ _ _ _ _, ?_, ?_, h1, ?_, ?_, row_made h2, by omega, by omega, by omega, ?_⟩
  · unfold World.cell?; rw [h0]; rfl
  · unfold World.cell?; rw [h0]; rfl
  · unfold World.cell?; rw [h3]; rfl
  · unfold World.cell?; rw [h3]; rfl
  · exact (Array.getElem?_eq_some_iff.1 h3).1

theorem meetB (w : World) (a : Option Addr) (len cap pn m : Nat) : TailCut w a len cap pn m (.pointer (some ⟨w.heap.size + 1 + 1, 0, none⟩))
    ((((w.alloc (.cells #[.slice a len cap, .int .i64 (pn : Int)] 70)).alloc (.cells #[.slice none 0 0, .int .i64 0] 70)).alloc (.cells #[.slice (some ⟨w.heap.size + 1 + 1 + 1, 0, none⟩) m m, .int .i64 (pn : Int)] 70)).alloc (.cells (madeCells #[.int .u8 0] m) 5)).drew := by
  obtain ⟨h0, h1, h2, h3⟩ := blk4 w (.cells #[.slice a len cap, .int .i64 (pn : Int)] 70) (.cells #[.slice none 0 0, .int .i64 0] 70) (.cells #[.slice (some ⟨w.heap.size + 1 + 1 + 1, 0, none⟩) m m, .int .i64 (pn : Int)] 70) (.cells (madeCells #[.int .u8 0] m) 5)
  refine ⟨w.heap.size + 1 + 1 + 1, w.heap.size + 1 + 1, rfl, below4 _ _ _ _ _, ?_, ?_, h1, ?_, ?_, row_made h3, by omega, by omega, by omega, ?_⟩
  · unfold World.cell?; rw [h0]; rfl
  · unfold World.cell?; rw [h0]; rfl
  · unfold World.cell?; rw [h2]; rfl
  · unfold World.cell?; rw [h2]; rfl
  · exact (Array.getElem?_eq_some_iff.1 h2).1

set_option maxHeartbeats 400000 in
set_option maxRecDepth 100000 in
theorem tail_core (a : Option Addr) (len cap pn m : Nat) (k : List Int) (w : World) (h : Bs w a len k) (hp : pn ≤ 2 * len) (hm1 : pn ≤ 2 * m) (hm2 : 2 * m ≤ pn + 1) (hl : len ≤ 1048576) :
    Calls Try.prog 53 #[.agg #[.slice a len cap, .int .i64 (pn : Int)], .int .i64 0] w fun e w' => ∃ g, e = .returned (.agg #[.slice (some ⟨g, 0, none⟩) m m, .int .i64 (pn : Int)]) ∧
      Below w.heap.size w w' ∧ w'.rowIs g 5 m (fun i => .int .u8 (tailAt k pn i)) := by
  have hmk := fun wx => run_make_row' (P := Try.prog) 22 5 (.int .u8 0) 1 Try.underlying22 info5 rfl .i64 .i64 m (by omega) (by omega) wx
  have em : (m : Int) = ((pn : Int) + 1) / 2 := by omega
  rw [em] at hmk
  clear em
  go_enter Try.func53, Try.ntmps53
  go_upto_region 1 with (fail)
  go_cut [5] from 7 (fun s5 wc => TailCut w a len cap pn m s5 wc)
  case first =>
    go_region
    · clear hmk
      go_wp2
      go_meet
      case rel => exact meetA w a len cap pn m
    · clear hmk
      go_wp2
      go_meet
      case rel => exact meetB w a len cap pn m
  case rest =>
    obtain ⟨g, t, rfl, hB, hn0, hn1, hres, ht0, ht1, hrow, hg, ht, hgt, hts⟩ := hcut
    clear hmk
    have hk := h.2.2.1
    go_wp2
    go_loopw [21] (fun i wr => ∃ j : Nat, j ≤ pn ∧ i = .int .i64 j ∧ wc.grownBy wr (some g) ∧ wr.rowIs g 5 m (fun i => .int .u8 (tailAt k j i))) (fun i _ => pn - (intOf i).toNat)
    case atStart => exact ⟨0, Nat.zero_le _, rfl, ⟨rfl, rfl, rfl, Nat.le_refl _, fun _ _ _ => rfl⟩, hrow.congr fun i _ => by simp [tailAt]⟩
    case round =>
      obtain ⟨j, hj, rfl, hgr, hrw⟩ := hrel
      have c0 : wr.cell? ⟨w.heap.size, 0, none⟩ = some (.slice a len cap) := by rw [hgr.cell_far ⟨w.heap.size, 0, none⟩ (by simp; omega) (by simp; omega)]; exact hn0
      have c1 : wr.cell? ⟨w.heap.size, 1, none⟩ = some (.int .i64 (pn : Int)) := by rw [hgr.cell_far ⟨w.heap.size, 1, none⟩ (by simp; omega) (by simp; omega)]; exact hn1
      have c2 : wr.cell? ⟨t, 0, none⟩ = some (.slice (some ⟨g, 0, none⟩) m m) := by rw [hgr.cell_far ⟨t, 0, none⟩ (by simpa using hts) (by simpa using Ne.symm hgt)]; exact ht0
      have c3 : wr.cell? ⟨t, 1, none⟩ = some (.int .i64 (pn : Int)) := by rw [hgr.cell_far ⟨t, 1, none⟩ (by simpa using hts) (by simpa using Ne.symm hgt)]; exact ht1
      have hBq : Below w.heap.size w wr := hB.trans ⟨hgr.os, hgr.tape, hgr.output, hgr.size, fun b hb => hgr.block b (by omega) (by simp; omega)⟩
      have hBw : Below w.heap.size w wr.drew := hBq.drew
      have hBs : Bs wr.drew a len k := h.below hBw
      have hr0 : wr.drew.rowIs g 5 m (fun i => .int .u8 (tailAt k j i)) := hrw.drew
      have hgl : t < wr.heap.size := Nat.lt_of_lt_of_le hts hgr.size
      have hgg := hrw.lt
      by_cases hlt : j < pn
      · have hB2 : Hid (Below w.heap.size w wr.drew) := hBw
        clear hBw
        have hwr : IntKind.i64.wrap (j : Int) = j := by rw [IntKind.wrap_i64]; omega
        go_wp2
        go_region_held3 (fun w' => w'.cell? ⟨w.heap.size, 0, none⟩ = some (.slice a len cap) ∧ w'.cell? ⟨w.heap.size, 1, none⟩ = some (.int .i64 (pn : Int)) ∧ w'.cell? ⟨t, 0, none⟩ = some (.slice (some ⟨g, 0, none⟩) m m) ∧ w'.cell? ⟨t, 1, none⟩ = some (.int .i64 (pn : Int))) (go_keep)
          (first
            | (go_at_call 50; refine (at_nat a len cap (pn : Int) j k wr.drew hBs (by omega)).mono ?_; rintro e w1 ⟨rfl, hb1⟩; have d0 := hb1.cell (p := ⟨w.heap.size, 0, none⟩) (by simp; omega); have d1 := hb1.cell (p := ⟨w.heap.size, 1, none⟩) (by simp; omega); have d2 := hb1.cell (p := ⟨t, 0, none⟩) (by simpa using hgl); have d3 := hb1.cell (p := ⟨t, 1, none⟩) (by simpa using hgl); have hr1 := hr0.of_block (hb1.block g hgg); have hz1 : wr.heap.size ≤ w1.heap.size := hb1.size)
            | (go_at_call 63; refine (set_any g m m (pn : Int) j k _ (by omega) (by omega) hk hr1).mono ?_; rintro e w2 ⟨rfl, hg2, hr2⟩; have e0 := hg2.cell_far ⟨w.heap.size, 0, none⟩ (by simp; omega) (by simp; omega); have e1 := hg2.cell_far ⟨w.heap.size, 1, none⟩ (by simp; omega) (by simp; omega); have e2 := hg2.cell_far ⟨t, 0, none⟩ (by simp; omega) (by simpa using Ne.symm hgt); have e3 := hg2.cell_far ⟨t, 1, none⟩ (by simp; omega) (by simpa using Ne.symm hgt)))
        go_wp2
        go_roundw
        case rel =>
          refine ⟨j + 1, by omega, by go_num, ?_, hr2⟩
          exact ⟨hg2.os.trans (hb1.os.trans hgr.os), hg2.tape.trans (hb1.tape.trans hgr.tape), hg2.output.trans (hb1.output.trans hgr.output), Nat.le_trans hgr.size (Nat.le_trans hb1.size hg2.size),
            fun b hb hne => (hg2.block b (Nat.lt_of_lt_of_le hb (Nat.le_trans hgr.size hb1.size)) hne).trans ((hb1.block b (Nat.lt_of_lt_of_le hb hgr.size)).trans (hgr.block b hb hne))⟩
        case measure => simp [intOf]; omega
      · obtain rfl : j = pn := by omega
        have f0 : wr.heap[w.heap.size + 1]? = some (.cells #[.slice none 0 0, .int .i64 0] 70) := by rw [hgr.block (w.heap.size + 1) (by omega) (by simp; omega)]; exact hres
        have f1 : wr.cell? ⟨w.heap.size + 1, 0, none⟩ = some (.slice none 0 0) := by simp [World.cell?, f0]
        have f2 : wr.cell? ⟨w.heap.size + 1, 1, none⟩ = some (.int .i64 0) := by simp [World.cell?, f0]
        have f3 : ∀ o, wr.frozen? ⟨w.heap.size + 1, o, none⟩ = false := by intro o; simp [World.frozen?, f0]
        clear f0 hres
        go_wp2
        refine bodyPost_ret (v := .agg #[.slice (some ⟨g, 0, none⟩) m m, .int .i64 (j : Int)]) (by simp [results, Try.results53, go_sem, f1, f2]) rfl ⟨g, rfl, ?_, ?_⟩
        · exact (hBq.setCell (by simp) _).setCell (by simp) _
        · exact (hrw.setOther (by simp; omega) _).setOther (by simp; omega) _

theorem tail_any (a : Option Addr) (len cap pn : Nat) (k : List Int) (w : World) (h : Bs w a len k) (hp : pn ≤ 2 * len) :
    Calls Try.prog 53 #[.agg #[.slice a len cap, .int .i64 (pn : Int)], .int .i64 0] w fun e w' => ∃ g, e = .returned (.agg #[.slice (some ⟨g, 0, none⟩) ((pn + 1) / 2) ((pn + 1) / 2), .int .i64 (pn : Int)]) ∧
      Below w.heap.size w w' ∧ Bs w' (some ⟨g, 0, none⟩) ((pn + 1) / 2) (leastOf k pn) := by
  refine (tail_core a len cap pn ((pn + 1) / 2) k w h hp (by omega) (by omega) h.2.1).mono ?_
  rintro e w' ⟨g, rfl, hb, hr⟩
  have hk : pn ≤ 2 * k.length := by rw [h.1]; exact hp
  refine ⟨g, rfl, hb, leastOf_length k pn hk, by have := h.2.1; omega, leastOf_bd k pn h.2.2.1, .inr ⟨g, 0, rfl, hr.lt, fun i hi => ?_⟩⟩
  rw [Nat.zero_add, leastOf_at k pn i hk]
  exact hr.cell hi
end Go.Proofs.Qxb6003417a
