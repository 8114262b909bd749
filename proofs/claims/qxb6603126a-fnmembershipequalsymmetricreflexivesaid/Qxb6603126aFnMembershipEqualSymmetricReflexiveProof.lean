/-
  The proof of 'Rows.FnMembershipEqualSymmetricReflexiveSaid'. The walk is in Qxb6603126aLaw. The frame is the guide's own way at this function's number and types.
-/
import Derived.Test.Qxb6603126aRows
import Derived.Test.Qxb6603126aLaw
import Derived.WalkKit
import Derived.ProofKit
import Derived.OpenShut
import Derived.ShutString
import Derived.SliceStrings
import Derived.Deep.Grids
import Derived.ChangeOld
import Derived.Below
namespace Go.Proofs.Qxb6603126a.fnMembershipEqualSymmetricReflexive
open Go.ChangeShapes Go.WideShapes Go.ChangeAt Go.RowKit
open Go.ChangeMaps (open_string shut_string)
set_option linter.unusedVariables false

theorem own : ownKnob Try.prog.godebug = none := by kernel_rfl
theorem laidOut : laidOutB Try.prog = true := by kernel_rfl

/-- Cells that stand one behind the other, as a column. -/
theorem col_of {w : World} {a : Addr} {len cap : Nat} {F : Nat → Value} (hl : len ≤ cap) (h : ∀ i, i < cap → w.cell? (a.add i) = some (F i)) : Col w (some a) len F := by
  by_cases h0 : len = 0
  · exact .inl h0
  · right
    obtain ⟨b, off, spot⟩ := a
    have hspot : spot = none := by simpa [Addr.add] using World.cell?_spot (h 0 (by omega))
    subst hspot
    have hc : ∀ j, j < len → w.cell? ⟨b, off + j, none⟩ = some (F j) := fun j hj => by rw [← Go.WideShapes.add_plain]; exact h j (by omega)
    exact ⟨b, off, rfl, World.block_lt_of_cell? w ⟨b, off + 0, none⟩ (hc 0 (by omega)), hc⟩

section
variable {H : Type} {enc : TypeId × Value → H} {W : World} {base : Nat} {held : Bool} {d : DataW H} {p : List MemPlace}

theorem strs_in {a : Option Addr} {len cap : Nat} (h : DataW.Trod enc Try.prog W base (fun _ => true) held 41 (.slice a len cap) d p) :
    ∃ N : Nat → ByteArray, Col W a len (fun i => .string (N i)) ∧ (∀ i, (N i).size ≤ maxLen) ∧ len ≤ maxLen ∧ (a = none → len = 0 ∧ cap = 0) := by
  obtain ⟨fuel, hf⟩ := h
  rcases open_strings Try.underlying41 Try.underlying9 (by kernel_rfl) hf with ⟨hcs, _⟩ | ⟨x, l, c, zs, hcs, _, hl, hm, hz, _, hcell, hwz⟩
  · simp [Value.cells] at hcs
    obtain ⟨rfl, rfl, rfl⟩ := hcs
    exact ⟨fun _ => ByteArray.empty, .inl rfl, fun _ => Nat.zero_le _, Nat.zero_le _, fun _ => ⟨rfl, rfl⟩⟩
  · simp [Value.cells] at hcs
    obtain ⟨rfl, rfl, rfl⟩ := hcs
    have hz' : zs.length = cap := by simpa using hz
    refine ⟨fun i => zs.getD i ByteArray.empty, col_of (cap := cap) hl (fun i hi => hcell i (by omega)), fun i => ?_, Nat.le_trans hl hm, fun h => by cases h⟩
    by_cases hi : i < zs.length
    · have : zs.getD i ByteArray.empty = zs[i] := by simp [List.getD, hi]
      show (zs.getD i ByteArray.empty).size ≤ maxLen
      rw [this]
      exact hwz _ (List.getElem_mem hi)
    · have : zs.getD i ByteArray.empty = ByteArray.empty := by simp [List.getD, List.getElem?_eq_none (Nat.le_of_not_lt hi)]
      show (zs.getD i ByteArray.empty).size ≤ maxLen
      rw [this]
      exact Nat.zero_le _

theorem ints_in {a : Option Addr} {len cap : Nat} (h : DataW.Trod enc Try.prog W base (fun _ => true) held 23 (.slice a len cap) d p) :
    ∃ S : Nat → Int, Col W a len (fun i => .int .u64 (S i)) ∧ len ≤ maxLen := by
  obtain ⟨fuel, hf⟩ := h
  rcases open_ints Try.underlying23 Try.underlying22 (by kernel_rfl) hf with ⟨hcs, _⟩ | ⟨x, l, c, zs, hcs, _, hl, hm, hz, _, hcell, hwz⟩
  · simp [Value.cells] at hcs
    obtain ⟨rfl, rfl, rfl⟩ := hcs
    exact ⟨fun _ => 0, .inl rfl, Nat.zero_le _⟩
  · simp [Value.cells] at hcs
    obtain ⟨rfl, rfl, rfl⟩ := hcs
    have hz' : zs.length = cap := by simpa using hz
    exact ⟨fun i => zs.getD i 0, col_of (cap := cap) hl (fun i hi => hcell i (by omega)), Nat.le_trans hl hm⟩

theorem bools_in {a : Option Addr} {len cap : Nat} (h : DataW.Trod enc Try.prog W base (fun _ => true) held 42 (.slice a len cap) d p) :
    ∃ L : Nat → Bool, Col W a len (fun i => .bool (L i)) ∧ len ≤ maxLen := by
  obtain ⟨fuel, hf⟩ := h
  rcases Go.Deep.open_bools Try.underlying42 Try.underlying4 (by kernel_rfl) hf with ⟨hcs, _⟩ | ⟨x, l, c, B, hcs, _, hl, hm, _, hcell⟩
  · simp [Value.cells] at hcs
    obtain ⟨rfl, rfl, rfl⟩ := hcs
    exact ⟨fun _ => false, .inl rfl, Nat.zero_le _⟩
  · simp [Value.cells] at hcs
    obtain ⟨rfl, rfl, rfl⟩ := hcs
    exact ⟨B, col_of (cap := cap) hl hcell, Nat.le_trans hl hm⟩
end

/-! ### The row's step -/
set_option maxRecDepth 100000 in
theorem lifted (os : Os) (started : os.Started) (H : Type) (enc : TypeId × Value → H) :
    ReturnsInHanded {} Try.checked os 7 .any (Rows.fnMembershipEqualSymmetricReflexiveSpec.pre6 enc Try.prog Try.f7 Rows.fnMembershipEqualSymmetricReflexiveRow.domain false) (Rows.fnMembershipEqualSymmetricReflexiveSpec.post enc Try.prog Try.f7 false true false false) := by
  refine returnsInHanded_of_change (C := Try.checked) own started (by kernel_rfl) Try.func7
    (ChangeSpec.witness6 (enc := enc) (C := Try.checked) false ⟨#[], #[.slice none 0 0, .slice none 0 0, .slice none 0 0, .slice none 0 0, .string ⟨#[]⟩, .slice none 0 0, .slice none 0 0, .slice none 0 0, .slice none 0 0, .string ⟨#[]⟩], []⟩ 8 (by kernel_rfl) (by kernel_rfl) (by kernel_rfl) (by kernel_rfl)) ?_
  intro W base args ds gs before hval0 hW hcnd _
  have hval : ∀ (j : Nat) t v, Try.f7.params[j]? = some t → args[j]? = some v → Value.okWide Try.prog W .any base t v := hval0
  have hW' := hW
  obtain ⟨p, q, hA0, hV, rfl, hfz, hnd⟩ := hW
  have hA : DataW.TrodAll enc Try.prog W 0 (fun _ => true) true Try.f7.params.toList args.toList ds p := hA0
  rw [Try.params7] at hA hval
  obtain ⟨v0, vs0, d0, ds0, p0, q0, hargs, rfl, rfl, h0, r0⟩ := trodAll_cons hA
  obtain ⟨v1, vs1, d1, ds1, p1, q1, rfl, rfl, rfl, h1, r1⟩ := trodAll_cons r0
  obtain ⟨v2, vs2, d2, ds2, p2, q2, rfl, rfl, rfl, h2, r2⟩ := trodAll_cons r1
  obtain ⟨v3, vs3, d3, ds3, p3, q3, rfl, rfl, rfl, h3, r3⟩ := trodAll_cons r2
  obtain ⟨v4, vs4, d4, ds4, p4, q4, rfl, rfl, rfl, h4, r4⟩ := trodAll_cons r3
  obtain ⟨v5, vs5, d5, ds5, p5, q5, rfl, rfl, rfl, h5, r5⟩ := trodAll_cons r4
  obtain ⟨v6, vs6, d6, ds6, p6, q6, rfl, rfl, rfl, h6, r6⟩ := trodAll_cons r5
  obtain ⟨v7, vs7, d7, ds7, p7, q7, rfl, rfl, rfl, h7, r7⟩ := trodAll_cons r6
  obtain ⟨v8, vs8, d8, ds8, p8, q8, rfl, rfl, rfl, h8, r8⟩ := trodAll_cons r7
  obtain ⟨v9, vs9, d9, ds9, p9, q9, rfl, rfl, rfl, h9, r9⟩ := trodAll_cons r8
  obtain ⟨rfl, rfl, rfl⟩ := trodAll_nil r9
  obtain rfl : args = #[v0, v1, v2, v3, v4, v5, v6, v7, v8, v9] := by cases args; simp_all
  obtain ⟨rfl, rfl⟩ := trodVars_none hV
  obtain ⟨a0, len0, cap0, rfl⟩ := okWide_slice Try.underlying41 (hval 0 41 v0 rfl rfl)
  have lt0 : ∀ x ∈ p0, x.block < W.heap.size := by obtain ⟨m, hm⟩ := h0; exact DataW.trod_lt m _ _ _ hm
  obtain ⟨a1, len1, cap1, rfl⟩ := okWide_slice Try.underlying41 (hval 1 41 v1 rfl rfl)
  have lt1 : ∀ x ∈ p1, x.block < W.heap.size := by obtain ⟨m, hm⟩ := h1; exact DataW.trod_lt m _ _ _ hm
  obtain ⟨a2, len2, cap2, rfl⟩ := okWide_slice Try.underlying23 (hval 2 23 v2 rfl rfl)
  have lt2 : ∀ x ∈ p2, x.block < W.heap.size := by obtain ⟨m, hm⟩ := h2; exact DataW.trod_lt m _ _ _ hm
  obtain ⟨a3, len3, cap3, rfl⟩ := okWide_slice Try.underlying42 (hval 3 42 v3 rfl rfl)
  have lt3 : ∀ x ∈ p3, x.block < W.heap.size := by obtain ⟨m, hm⟩ := h3; exact DataW.trod_lt m _ _ _ hm
  obtain ⟨a4, rfl, rfl, rfl, b4⟩ := open_string Try.underlying9 (hval 4 9 v4 rfl rfl) h4
  obtain ⟨a5, len5, cap5, rfl⟩ := okWide_slice Try.underlying41 (hval 5 41 v5 rfl rfl)
  have lt5 : ∀ x ∈ p5, x.block < W.heap.size := by obtain ⟨m, hm⟩ := h5; exact DataW.trod_lt m _ _ _ hm
  obtain ⟨a6, len6, cap6, rfl⟩ := okWide_slice Try.underlying41 (hval 6 41 v6 rfl rfl)
  have lt6 : ∀ x ∈ p6, x.block < W.heap.size := by obtain ⟨m, hm⟩ := h6; exact DataW.trod_lt m _ _ _ hm
  obtain ⟨a7, len7, cap7, rfl⟩ := okWide_slice Try.underlying23 (hval 7 23 v7 rfl rfl)
  have lt7 : ∀ x ∈ p7, x.block < W.heap.size := by obtain ⟨m, hm⟩ := h7; exact DataW.trod_lt m _ _ _ hm
  obtain ⟨a8, len8, cap8, rfl⟩ := okWide_slice Try.underlying42 (hval 8 42 v8 rfl rfl)
  have lt8 : ∀ x ∈ p8, x.block < W.heap.size := by obtain ⟨m, hm⟩ := h8; exact DataW.trod_lt m _ _ _ hm
  obtain ⟨a9, rfl, rfl, rfl, b9⟩ := open_string Try.underlying9 (hval 9 9 v9 rfl rfl) h9
  obtain ⟨N0, c0, s0, b0, n0⟩ := strs_in h0
  obtain ⟨N1, c1, s1, b1, n1⟩ := strs_in h1
  obtain ⟨S2, c2, b2⟩ := ints_in h2
  obtain ⟨L3, c3, b3⟩ := bools_in h3
  obtain ⟨N5, c5, s5, b5, n5⟩ := strs_in h5
  obtain ⟨N6, c6, s6, b6, n6⟩ := strs_in h6
  obtain ⟨S7, c7, b7⟩ := ints_in h7
  obtain ⟨L8, c8, b8⟩ := bools_in h8
  clear hA0 hval0
  refine (walk a0 a1 a2 a3 a5 a6 a7 a8 len0 cap0 len1 cap1 len2 cap2 len3 cap3 len5 cap5 len6 cap6 len7 cap7 len8 cap8 a4 a9 N0 N1 N5 N6 S2 S7 L3 L8 W n0 n5 c0 c1 c2 c3 c5 c6 c7 c8 b0 b1 b2 b3 b5 b6 b7 b8 b4 b9 s0 s1 s5 s6).mono fun e W' ⟨he, bel⟩ => ?_
  subst he
  exact ⟨_, rfl, _, _, _, [], _, [], hW', trodAll_mk1 (shut_bool Try.underlying4 _),
    (trodAll_cons_mk (Below.trod laidOut (by kernel_rfl) (of_decide_eq_true (by kernel_rfl)) h0 bel lt0)
    (trodAll_cons_mk (Below.trod laidOut (by kernel_rfl) (of_decide_eq_true (by kernel_rfl)) h1 bel lt1)
    (trodAll_cons_mk (Below.trod laidOut (by kernel_rfl) (of_decide_eq_true (by kernel_rfl)) h2 bel lt2)
    (trodAll_cons_mk (Below.trod laidOut (by kernel_rfl) (of_decide_eq_true (by kernel_rfl)) h3 bel lt3)
    (trodAll_cons_mk (shut_string Try.underlying9 b4)
    (trodAll_cons_mk (Below.trod laidOut (by kernel_rfl) (of_decide_eq_true (by kernel_rfl)) h5 bel lt5)
    (trodAll_cons_mk (Below.trod laidOut (by kernel_rfl) (of_decide_eq_true (by kernel_rfl)) h6 bel lt6)
    (trodAll_cons_mk (Below.trod laidOut (by kernel_rfl) (of_decide_eq_true (by kernel_rfl)) h7 bel lt7)
    (trodAll_cons_mk (Below.trod laidOut (by kernel_rfl) (of_decide_eq_true (by kernel_rfl)) h8 bel lt8)
    (trodAll_cons_mk (shut_string Try.underlying9 b9) trodAll_mk0)))))))))), rfl, bel.frame _, fun h => by cases h⟩

theorem over : Rows.fnMembershipEqualSymmetricReflexiveRow.holds Try.pinned (OpenSpec.ofChange Rows.fnMembershipEqualSymmetricReflexiveSpec) :=
  OpenClaim.holds_of_wide 7 Try.f7 rfl rfl rfl rfl rfl rfl rfl ⟨rfl, rfl, rfl, rfl, rfl⟩ rfl rfl rfl rfl rfl (by kernel_rfl) Try.func7 (by kernel_rfl)
    (of_decide_eq_true (by kernel_rfl)) (by unfold Func.isWrapper; first | (rw [if_pos (by decide +kernel)]; kernel_rfl) | (rw [if_neg (by decide +kernel)]; exact ⟨rfl, rfl⟩))
    (fun os started H enc _ => lifted os started H enc)

/-- ████ THE STATEMENT ████ -/
theorem proved : Rows.FnMembershipEqualSymmetricReflexiveSaid := over
#print axioms proved
end Go.Proofs.Qxb6603126a.fnMembershipEqualSymmetricReflexive
