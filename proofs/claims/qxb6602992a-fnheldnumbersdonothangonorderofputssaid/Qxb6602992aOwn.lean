import Derived.Test.Qxb6602992aInsert
import Derived.Test.Qxb6602992aMapLaw
import Derived.Test.Qxb6602992aSearch
import Derived.Maps.AppendAt
import Derived.Lib.LazyBuf
import Derived.Deep.Upon
import Derived.Deep.OwnRows
namespace Go.Proofs.Qxb6602992a
open Go.RowKit Go.Lib
set_option linter.unusedVariables false
set_option linter.unusedSimpArgs false

abbrev U (x : Int) : Value := .int .u64 x

/-- The slice value v owns the numbers L. -/
def Owns (w : World) (base : Nat) (v : Value) (L : List Int) : Prop := w.ownsRow base 23 1 v L.length (L.map U)

theorem own_of_row {w : World} {base g cap : Nat} {f : Nat → Value} {L : List Int} (hr : w.rowIs g 23 cap f) (hb : base ≤ g) (hl : L.length ≤ cap) (hm : cap ≤ maxLen)
    (hf : ∀ i, i < L.length → f i = U (L.getD i 0)) : Owns w base (.slice (some ⟨g, 0, none⟩) L.length cap) L := by
  obtain ⟨cs, hh, hs, hc⟩ := hr
  refine ⟨by simp, .inr ⟨g, cap, cs, rfl, hb, hh, hl, hm, by simpa using hs, ?_⟩⟩
  apply List.ext_getElem?
  intro i
  rw [List.getElem?_take, List.getElem?_map]
  by_cases hi : i < L.length
  · rw [if_pos (by omega), Array.getElem?_toList, hc i (by omega), hf i hi, List.getElem?_eq_getElem hi]
    simp [List.getD, List.getElem?_eq_getElem hi]
  · rw [if_neg (by omega), List.getElem?_eq_none (by omega)]; rfl

theorem Owns.row {w : World} {base : Nat} {v : Value} {L : List Int} (h : Owns w base v L) (hp : 0 < L.length) :
    ∃ g cap f, v = .slice (some ⟨g, 0, none⟩) L.length cap ∧ base ≤ g ∧ L.length ≤ cap ∧ cap ≤ maxLen ∧ w.rowIs g 23 cap f ∧ ∀ i, i < L.length → f i = U (L.getD i 0) := by
  obtain ⟨h1, h2⟩ := h
  rcases h2 with ⟨_, h2⟩ | ⟨g, cap, cur, rfl, hb, hh, hl, hm, hs, ht⟩
  · omega
  · refine ⟨g, cap, fun i => cur.getD i default, rfl, hb, hl, hm, ⟨cur, hh, by simpa using hs, fun i hi => ?_⟩, fun i hi => ?_⟩
    · have : i < cur.size := by omega
      simp [Array.getD, this]
    · have e := congrArg (·[i]?) ht
      simp only [List.getElem?_take, List.getElem?_map] at e
      rw [if_pos (by omega), List.getElem?_eq_getElem hi, Array.getElem?_toList] at e
      have hic : i < cur.size := by omega
      simp [Array.getElem?_eq_getElem hic] at e
      simp [Array.getD, hic, List.getD, List.getElem?_eq_getElem hi, e]

theorem grown_setCells (w : World) (g o : Nat) (vs : List Value) : w.grownBy (w.setCells g o vs) (some g) := by
  induction vs generalizing w o with
  | nil => exact ⟨rfl, rfl, rfl, Nat.le_refl _, fun _ _ _ => rfl⟩
  | cons v r ih =>
    have h1 : w.grownBy (w.setCell ⟨g, o, none⟩ v) (some g) := ⟨rfl, rfl, rfl, by simp [World.setCell], fun k hk hne => Below.heap_setCell _ _ _ _ (by intro h; apply hne; rw [h])⟩
    exact World.grownBy.trans h1 (ih _ _)

theorem grown_drew (w : World) (row : Option Nat) : w.grownBy w.drew row := ⟨rfl, rfl, rfl, Nat.le_refl _, fun _ _ _ => rfl⟩

theorem one_U (l : List Int) : ∀ v ∈ l.map U, v.oneCell' = true := by simp [Value.oneCell']

set_option maxHeartbeats 800000 in
/-- slices.Insert of one number into a row of the call's own. -/
theorem insert_any (base i : Nat) (v : Value) (L : List Int) (x : Int) (vb : Nat) (w : World) (ho : Owns w base v L) (hi : i < L.length) (hv : w.heap[vb]? = some (.cells #[U x] 23 (0, 0))) (hne : v.ownBlock ≠ some vb) (hl : L.length < 1048576) (hbase : base ≤ w.heap.size) :
    Calls Try.prog 43 #[v, .int .i64 (i : Int), .slice (some ⟨vb, 0, none⟩) 1 1] w fun e w' => ∃ v', e = .returned v' ∧ Owns w' base v' (L.take i ++ x :: L.drop i) ∧ w.grownBy w' v.ownBlock ∧ (v'.ownBlock = v.ownBlock ∨ v'.ownBlock = some w.heap.size) := by
  obtain ⟨g, cap, f, rfl, hb, hlc, hcm, hr, hf⟩ := ho.row (by omega)
  have hgvb : vb ≠ g := by simpa [Value.ownBlock, eq_comm] using hne
  have hll : (L.take i ++ x :: L.drop i).length = L.length + 1 := by simp; omega
  have hcs : ∀ j u, (L.map U)[j]? = some u → w.cell? ⟨g, 0 + j, none⟩ = some u := fun j u hj => by
    rw [List.getElem?_map] at hj
    obtain ⟨n, hn, rfl⟩ := Option.map_eq_some_iff.1 hj
    have hjl := (List.getElem?_eq_some_iff.1 hn).1
    rw [Nat.zero_add, hr.cell (by omega), hf j hjl, List.getD_eq_getElem?_getD, hn]; rfl
  have hvs : ∀ j u, [U x][j]? = some u → w.cell? ⟨vb, 0 + j, none⟩ = some u := fun j u hj => by
    have : j = 0 := by
      have := (List.getElem?_eq_some_iff.1 hj).1
      simp at this; omega
    subst this
    simp at hj; subst hj
    simp [World.cell?, hv]
  have hc63 : cap ≤ 9223372036854775807 := by unfold maxLen at hcm; omega
  have getL : ∀ j, j < L.length + 1 → (L.take i ++ x :: L.drop i).getD j 0 = if j < i then L.getD j 0 else if j = i then x else L.getD (j - 1) 0 := by
    intro j hj
    simp only [List.getD_eq_getElem?_getD]
    by_cases h1 : j < i
    · rw [if_pos h1, List.getElem?_append_left (by simp; omega), List.getElem?_take, if_pos h1]
    · rw [if_neg h1, List.getElem?_append_right (by simp; omega)]
      have e1 : (L.take i).length = i := by simp; omega
      rw [e1]
      by_cases h2 : j = i
      · rw [if_pos h2, h2]; simp
      · rw [if_neg h2, show j - i = (j - 1 - i) + 1 by omega, List.getElem?_cons_succ, List.getElem?_drop, show i + (j - 1 - i) = j - 1 by omega]
  by_cases hroom : L.length + 1 ≤ cap
  · have hh : ∃ c t, w.heap[g]? = some (.cells c t (0, 0)) ∧ c.size = cap := by
      obtain ⟨c, h1, h2, _⟩ := hr
      exact ⟨c, 23, h1, h2⟩
    obtain ⟨cc, tt, hh1, hh2⟩ := hh
    refine (insert_shift g 0 L.length cap i vb 0 1 1 (L.map U) [U x] w hi (by omega) hroom hc63 hgvb (by simp) rfl hcs
      (fun j hj => by rw [Nat.zero_add, hr.cell (by omega)]; rfl) (fun j hj => by rw [Nat.zero_add]; exact hr.frozen _) hvs (one_U L) (by simp [Value.oneCell'])
      23 tt 1 cap (by simp [World.shape?, hv]) (by simp [World.shape?, hh1, hh2]) (by omega) (by simp [World.frozen?, hv]) (by simp [World.frozen?, hv])).mono ?_
    rintro e w' ⟨rfl, rfl⟩
    refine ⟨_, rfl, ?_, ?_, Or.inl rfl⟩
    · have r1 := rowIs_setCells ((L.map U).drop i) (0 + (i + 1)) _ _ hr.drew
      have r2 := rowIs_setCells [U x] (0 + i) _ _ r1
      have := own_of_row (base := base) (L := L.take i ++ x :: L.drop i) r2 hb (by rw [hll]; exact hroom) hcm (fun j hj => by
        rw [hll] at hj
        rw [getL j hj]
        simp only [Nat.zero_add, List.length_cons, List.length_nil, List.length_drop, List.length_map]
        by_cases h1 : j < i
        · rw [if_neg (by omega), if_neg (by omega), if_pos h1, hf j (by omega)]
        · by_cases h2 : j = i
          · rw [if_pos (by omega), if_neg h1, if_pos h2, h2]; simp
          · rw [if_neg (by omega), if_pos (by omega), if_neg h1, if_neg h2, List.getElem?_drop, show i + (j - (i + 1)) = j - 1 by omega, List.getElem?_map, List.getD_eq_getElem?_getD]
            have hj1 : j - 1 < L.length := by omega
            rw [List.getElem?_eq_getElem hj1]; rfl)
      rwa [hll] at this
    · exact World.grownBy.trans (World.grownBy.trans (grown_drew w _) (grown_setCells _ _ _ _)) (grown_setCells _ _ _ _)
  · refine (insert_grow g 0 L.length cap i vb 0 1 1 (L.map U) [U x] w hi (by omega) hlc (by omega) (by omega) (by simp) rfl hcs hvs (one_U L) (by simp [Value.oneCell'])).mono ?_
    rintro e w' ⟨rfl, rfl⟩
    have hge := grownCap_ge w (L.length + 1) cap 23
    have hgm : grownCap w (L.length + 1) cap 23 ≤ maxLen := grownCap_le_maxLen w (L.length + 1) cap 23 (by unfold maxLen; omega)
    generalize grownCap w (L.length + 1) cap 23 = G at hge hgm
    refine ⟨_, rfl, ?_, ?_, Or.inr rfl⟩
    · have hRs : (((L.map U).take i).toArray ++ Builtin.zeroCells (Value.int .u64 0).cells (L.length + 1 - i) ++ Builtin.zeroCells (Value.int .u64 0).cells (G - (L.length + 1))).size = G := by
        simp [Builtin.zeroCells, Value.cells]; omega
      generalize hR : ((L.map U).take i).toArray ++ Builtin.zeroCells (Value.int .u64 0).cells (L.length + 1 - i) ++ Builtin.zeroCells (Value.int .u64 0).cells (G - (L.length + 1)) = ROW at hRs
      have r0 : (w.alloc (.cells ROW 23)).rowIs w.heap.size 23 G (fun j => ROW.getD j default) := by
        have := World.rowIs_alloc w ROW 23 (fun j => ROW.getD j default) (fun j hj => by simp [Array.getD, hj])
        rwa [hRs] at this
      have r1 := rowIs_setCells [U x] i _ _ r0.drew
      have r2 := rowIs_setCells ((L.map U).drop i) (i + 1) _ _ r1.drew
      have := own_of_row (base := base) (L := L.take i ++ x :: L.drop i) r2 hbase (by rw [hll]; exact hge) hgm (fun j hj => by
        rw [hll] at hj
        rw [getL j hj]
        simp only [List.length_cons, List.length_nil, List.length_drop, List.length_map]
        by_cases h1 : j < i
        · rw [if_neg (by omega), if_neg (by omega), if_pos h1]
          have hjR : j < ROW.size := by omega
          have hj2 : j < L.length := by omega
          have : ROW[j]? = some (U (L.getD j 0)) := by
            rw [← hR, Array.append_assoc, Array.getElem?_append_left (by simp; omega)]
            simp [h1, List.getElem?_eq_getElem hj2, List.getD]
          simp [Array.getD, hjR]
          rw [Array.getElem?_eq_getElem hjR] at this
          simpa using this
        · by_cases h2 : j = i
          · rw [if_neg (by omega), if_pos (by omega), if_neg h1, if_pos h2, h2]; simp
          · rw [if_pos (by omega), if_neg h1, if_neg h2, List.getElem?_drop, show i + (j - (i + 1)) = j - 1 by omega, List.getElem?_map, List.getD_eq_getElem?_getD]
            have hj1 : j - 1 < L.length := by omega
            rw [List.getElem?_eq_getElem hj1]; rfl)
      rwa [hll] at this
    · have k0 : w.grownBy (w.alloc (.cells (((L.map U).take i).toArray ++ Builtin.zeroCells (Value.int .u64 0).cells (L.length + 1 - i) ++ Builtin.zeroCells (Value.int .u64 0).cells (G - (L.length + 1))) 23)) (some g) := World.grownBy_alloc _ _ _
      generalize (w.alloc (.cells (((L.map U).take i).toArray ++ Builtin.zeroCells (Value.int .u64 0).cells (L.length + 1 - i) ++ Builtin.zeroCells (Value.int .u64 0).cells (G - (L.length + 1))) 23)) = W1 at k0
      have k1 := grown_setCells W1.drew w.heap.size i [U x]
      have k2 := grown_setCells (W1.drew.setCells w.heap.size i [U x]).drew w.heap.size (i + 1) ((L.map U).drop i)
      refine ⟨k2.os.trans (k1.os.trans k0.os), k2.tape.trans (k1.tape.trans k0.tape), k2.output.trans (k1.output.trans k0.output), Nat.le_trans k0.size (Nat.le_trans k1.size k2.size), fun k hk hne => ?_⟩
      have hkN : some k ≠ some w.heap.size := by simp; omega
      exact (k2.block k (Nat.lt_of_lt_of_le hk (Nat.le_trans k0.size k1.size)) hkN).trans ((k1.block k (Nat.lt_of_lt_of_le hk k0.size) hkN).trans (k0.block k hk hne))
end Go.Proofs.Qxb6602992a
