import Derived.Test.Qxb6003417aClone
import Derived.OpenShut
namespace Go.Proofs.Qxb6003417a.fnRangeTokenTestsAreSound
open Go.RowKit
set_option linter.unusedVariables false

/-- WHAT THE WALK IS TOLD OF A SLICE OF INTEGERS THAT CAME IN: it is nil; or it leads to a row of 'cap' cells, the numbers 'zs' (the first 'len' are its elements, the rest its spare room), each fitting its kind. -/
def IsRow (k : IntKind) (w : World) (a : Option Addr) (len cap : Nat) (zs : List Int) : Prop :=
  (a = none ∧ len = 0 ∧ cap = 0 ∧ zs = []) ∨
  ∃ x, a = some x ∧ len ≤ cap ∧ cap ≤ maxLen ∧ zs.length = cap ∧ (∀ i, i < zs.length → w.cell? (x.add i) = some (.int k (zs.getD i 0))) ∧ ∀ n ∈ zs, (Lit.int k n).wf = true

theorem IsRow.le {k : IntKind} {w : World} {a : Option Addr} {len cap : Nat} {zs : List Int} (h : IsRow k w a len cap zs) : len ≤ maxLen := by
  rcases h with ⟨_, rfl, _⟩ | ⟨x, _, h1, h2, _⟩
  · omega
  · omega

theorem bs_of_row {w : World} {a : Option Addr} {len cap : Nat} {zs : List Int} (h : IsRow .u8 w a len cap zs) (hl : len ≤ 1048576) : Bs w a len (zs.take len) := by
  rcases h with ⟨rfl, rfl, rfl, rfl⟩ | ⟨x, rfl, h1, h2, h3, hc, hw⟩
  · exact ⟨rfl, by omega, by simp, .inl rfl⟩
  · refine ⟨by simp; omega, hl, fun n hn => bounds_u8 (hw n (List.mem_of_mem_take hn)), ?_⟩
    by_cases h0 : len = 0
    · exact .inl h0
    · right
      obtain ⟨b, off, rfl, hcc⟩ := ints_at hc (by omega)
      refine ⟨b, off, rfl, ?_, fun i hi => ?_⟩
      · exact block_lt_of_cell (hcc 0 (by omega))
      · rw [hcc i (by omega)]
        simp [List.getD, hi]

theorem clone_any (a : Option Addr) (len cap : Nat) (zs : List Int) (w : World) (h : IsRow .u8 w a len cap zs) (hl : len ≤ 1048576) :
    Calls Try.prog 11 #[.slice a len cap] w fun e w' => ∃ a' c, e = .returned (.slice a' len c) ∧ Below w.heap.size w w' ∧ Bs w' a' len (zs.take len) := by
  have hb := bs_of_row h hl
  rcases h with ⟨rfl, rfl, rfl, rfl⟩ | ⟨x, rfl, _⟩
  · exact clone_nil w
  · exact clone_some x len cap _ w hb hl

theorem IsRow.below {k : IntKind} {w w' : World} {a : Option Addr} {len cap : Nat} {zs : List Int} (h : IsRow k w a len cap zs) (hb : Below w.heap.size w w') : IsRow k w' a len cap zs := by
  rcases h with h | ⟨x, rfl, h1, h2, h3, hc, hw⟩
  · exact .inl h
  · refine .inr ⟨x, rfl, h1, h2, h3, fun i hi => ?_, hw⟩
    have := hc i hi
    rw [hb.cell (block_lt_of_cell this)]; exact this

theorem hidI {p : Prop} (h : p) : Hid p := h

set_option maxHeartbeats 400000 in
theorem walk_yes (a0 : Option Addr) (len0 cap0 : Nat) (z0 : List Int) (a1 : Bool) (a2 : Option Addr) (len2 cap2 : Nat) (z2 : List Int) (a3 : Bool) (a4 : Option Addr) (len4 cap4 : Nat) (z4 : List Int) (pn : Nat) (w : World) (w0 : IsRow .u8 w a0 len0 cap0 z0) (w2 : IsRow .u8 w a2 len2 cap2 z2) (w4 : IsRow .u8 w a4 len4 cap4 z4)
    (hsum : len0 + len2 + len4 ≤ 1048576) (hp : pn ≤ 2 * len4) :
    Calls Try.prog 5 #[.slice a0 len0 cap0, .bool a1, .slice a2 len2 cap2, .bool a3, .slice a4 len4 cap4, .int .i64 (pn : Int)] w fun e w' => e = .returned (.bool true) ∧ Below w.heap.size w w' := by
  go_enter Try.func5, Try.ntmps5
  go_wp2_with fail
  refine (bytes_yes a0 a2 a4 len0 cap0 len2 cap2 len4 cap4 a1 a3 pn w hsum).mono ?_
  rintro e wx ⟨rfl, rfl⟩
  go_wp2_with fail
  refine (clone_any a0 len0 cap0 z0 wx w0 (by omega)).mono ?_
  rintro e w1 ⟨s, cs, rfl, hb1, hs⟩
  go_wp2_with fail
  refine (clone_any a2 len2 cap2 z2 w1 (w2.below hb1) (by omega)).mono ?_
  rintro e wb ⟨en, ce, rfl, hb2, he⟩
  have hB2 : Below wx.heap.size wx wb := hb1.trans (hb2.mono hb1.size)
  go_wp2_with fail
  refine (clone_any a4 len4 cap4 z4 wb (w4.below hB2) (by omega)).mono ?_
  rintro e wd ⟨k, ck, rfl, hb3, hk⟩
  have hB3 : Below wx.heap.size wx wd := hB2.trans (hb3.mono hB2.size)
  have hs3 : Bs wd s len0 (z0.take len0) := (hs.below hb2).below hb3
  have he3 : Bs wd en len2 (z2.take len2) := he.below hb3
  clear hs he hb1 hb2 hb3 w0 w2 w4
  have hA : ∀ o, Below wd.heap.size wd (wd.alloc o) := fun o => (Below.refl _ _).alloc (Nat.le_refl _) _
  go_wp2_with fail
  refine (shim_holds s en k len0 cs len2 ce len4 ck a1 a3 _ _ _ _ (by exact hs3.below (hA _)) (by exact he3.below (hA _)) (by exact hk.below (hA _))).mono ?_
  rintro e w4 ⟨rfl, hb4⟩
  have hB4 : Below wx.heap.size wx w4 := (hB3.trans ((hA _).mono hB3.size)).trans (hb4.mono (by have := hB3.size; simp; omega))
  have hs4 := hs3.below ((hA _).trans (hb4.mono (by simp)))
  have he4 := he3.below ((hA _).trans (hb4.mono (by simp)))
  have hk4 := hk.below ((hA _).trans (hb4.mono (by simp)))
  obtain ⟨hc4, hf4⟩ := bcell hb4
  have hz4 : wd.heap.size < w4.heap.size := by have := hb4.size; simp at this; omega
  have t0 : w4.cell? ⟨wd.heap.size, 0, none⟩ = some (.slice s len0 cs) := by rw [hc4 _ _ (by simp)]; go_simp
  have t1 : w4.cell? ⟨wd.heap.size, 1, none⟩ = some (.bool a1) := by rw [hc4 _ _ (by simp)]; go_simp
  have t2 : w4.cell? ⟨wd.heap.size, 2, none⟩ = some (.slice en len2 ce) := by rw [hc4 _ _ (by simp)]; go_simp
  have t3 : w4.cell? ⟨wd.heap.size, 3, none⟩ = some (.bool a3) := by rw [hc4 _ _ (by simp)]; go_simp
  have HO := fun wz (hb : Below w4.heap.size w4 wz) => shim_outside s en k len0 cs len2 ce len4 ck pn a1 a3 _ _ _ wz (hs4.below hb) (he4.below hb) (hk4.below hb) hp
  have HW := fun wz (hb : Below w4.heap.size w4 wz) => shim_within s en k len0 cs len2 ce len4 ck pn a1 a3 _ _ _ wz (hs4.below hb) (he4.below hb) (hk4.below hb) hp
  clear hc4 hf4 hb4 hs3 he3 hk hs4 he4 hk4 hB2 hB3 hA
  generalize holdsB (z0.take len0) a1 (z2.take len2) a3 (z4.take len4) = hh at HO HW ⊢
  have O1 := hidI HO
  have W1 := hidI HW
  clear HO HW
  go_wp2_with fail
  refine (O1.out w4 (Below.refl _ _)).mono ?_
  rintro e w5 ⟨b1, rfl, hi1, hb5⟩
  have hB5 : Below wx.heap.size wx w5 := hB4.trans (hb5.mono hB4.size)
  obtain ⟨hc5, hf5⟩ := bcell hb5
  have u0 : w5.cell? ⟨wd.heap.size, 0, none⟩ = some (.slice s len0 cs) := by rw [hc5 _ _ hz4]; exact t0
  have u1 : w5.cell? ⟨wd.heap.size, 1, none⟩ = some (.bool a1) := by rw [hc5 _ _ hz4]; exact t1
  have u2 : w5.cell? ⟨wd.heap.size, 2, none⟩ = some (.slice en len2 ce) := by rw [hc5 _ _ hz4]; exact t2
  have u3 : w5.cell? ⟨wd.heap.size, 3, none⟩ = some (.bool a3) := by rw [hc5 _ _ hz4]; exact t3
  have W2 := hidI (W1.out w5 hb5)
  clear hc5 hf5 hb5 t0 t1 t2 t3 W1 O1
  cases b1 <;> cases hh
  case true.true => simp at hi1
  all_goals
    clear hi1
    go_wp2_with fail
    refine W2.out.mono ?_
    rintro e w6 ⟨b2, rfl, hi2, hb6⟩
    have hB6 : Below wx.heap.size wx w6 := hB5.trans (hb6.mono hB5.size)
    clear hb6 W2
    cases b2
    all_goals first | (exfalso; simp at hi2; done) | skip
    all_goals
      clear hi2
      go_wp2
      go_ret
      exact ⟨rfl, hB6⟩

/-- ████ THE WALK ████ -/
theorem walk (a0 : Option Addr) (len0 cap0 : Nat) (z0 : List Int) (a1 : Bool) (a2 : Option Addr) (len2 cap2 : Nat) (z2 : List Int) (a3 : Bool) (a4 : Option Addr) (len4 cap4 : Nat) (z4 : List Int) (a5 : Int) (w : World) (w0 : IsRow .u8 w a0 len0 cap0 z0) (w2 : IsRow .u8 w a2 len2 cap2 z2) (w4 : IsRow .u8 w a4 len4 cap4 z4) (w5 : (Lit.int .i64 a5).wf = true) :
    Calls Try.prog 5 #[.slice a0 len0 cap0, .bool a1, .slice a2 len2 cap2, .bool a3, .slice a4 len4 cap4, .int .i64 a5] w fun e w' => e = .returned (.bool true) ∧ Below w.heap.size w w' := by
  have hl0 := w0.le
  have hl2 := w2.le
  have hl4 := w4.le
  have h5 := bounds_i64 w5
  by_cases hsum : len0 + len2 + len4 ≤ 1048576
  · by_cases hneg : a5 < 0
    · go_enter Try.func5, Try.ntmps5
      go_wp2_with fail
      refine (bytes_yes a0 a2 a4 len0 cap0 len2 cap2 len4 cap4 a1 a3 a5 w hsum).mono ?_
      rintro e wx ⟨rfl, rfl⟩
      go_wp2
      go_ret
      exact ⟨rfl, Below.refl _ _⟩
    · by_cases hbig : 2 * (len4 : Int) < a5
      · go_enter Try.func5, Try.ntmps5
        go_wp2_with fail
        refine (bytes_yes a0 a2 a4 len0 cap0 len2 cap2 len4 cap4 a1 a3 a5 w hsum).mono ?_
        rintro e wx ⟨rfl, rfl⟩
        go_wp2
        go_ret
        exact ⟨rfl, Below.refl _ _⟩
      · obtain ⟨pn, rfl⟩ := Int.eq_ofNat_of_zero_le (show 0 ≤ a5 by omega)
        exact walk_yes a0 len0 cap0 z0 a1 a2 len2 cap2 z2 a3 a4 len4 cap4 z4 pn w w0 w2 w4 hsum (by omega)
  · go_enter Try.func5, Try.ntmps5
    go_wp2_with fail
    refine (bytes_no a0 a2 a4 len0 cap0 len2 cap2 len4 cap4 a1 a3 a5 w hl0 hl2 hl4 (by omega)).mono ?_
    rintro e wx ⟨rfl, rfl⟩
    go_wp2
    go_ret
    exact ⟨rfl, Below.refl _ _⟩
end Go.Proofs.Qxb6003417a.fnRangeTokenTestsAreSound
