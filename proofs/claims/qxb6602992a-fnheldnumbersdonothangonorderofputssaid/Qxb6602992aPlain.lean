import Derived.Test.Qxb6602992aHeld
/-! What the script of puts comes to: plain functions, no Go in sight. -/
namespace Go.Proofs.Qxb6602992a
set_option linter.unusedVariables false

/-- The numbers behind a put. -/
def putL (f : Int → Option (Int × Int)) (s : Int) (L : List Int) : List Int := if (f s).isSome then L else ins s L
def putC (f : Int → Option (Int × Int)) (s : Int) (c : Nat) : Nat := if (f s).isSome then c else c + 1

section
variable (zs vs : List Int) (g : Nat → Nat)
/-- The messages behind t puts, put u being of index 'g u'. -/
def stF : Nat → Int → Option (Int × Int)
  | 0 => fun _ => none
  | t + 1 => upd (stF t) (zs.getD (g t) 0) (vs.getD (g t) 0, (g t : Int))
def stL : Nat → List Int
  | 0 => []
  | t + 1 => putL (stF zs vs g t) (zs.getD (g t) 0) (stL t)
def stC : Nat → Nat
  | 0 => 0
  | t + 1 => putC (stF zs vs g t) (zs.getD (g t) 0) (stC t)

theorem stF_succ (t : Nat) (x : Int) : stF zs vs g (t + 1) x = if x = zs.getD (g t) 0 then some (vs.getD (g t) 0, (g t : Int)) else stF zs vs g t x := rfl

theorem stF_some : ∀ (t : Nat) (x : Int), (stF zs vs g t x).isSome = true ↔ ∃ u, u < t ∧ zs.getD (g u) 0 = x
  | 0, x => by simp [stF]
  | t + 1, x => by
    have ih := stF_some t x
    unfold stF upd
    by_cases h : x = zs.getD (g t) 0
    · rw [if_pos h]
      exact ⟨fun _ => ⟨t, by omega, h.symm⟩, fun _ => rfl⟩
    · rw [if_neg h, ih]
      constructor
      · rintro ⟨u, h1, h2⟩; exact ⟨u, by omega, h2⟩
      · rintro ⟨u, h1, h2⟩
        by_cases e : u = t
        · subst e; exact absurd h2.symm h
        · exact ⟨u, by omega, h2⟩

theorem stF_val : ∀ (t : Nat) (x v a : Int), stF zs vs g t x = some (v, a) → ∃ u, u < t ∧ zs.getD (g u) 0 = x ∧ v = vs.getD (g u) 0 ∧ a = (g u : Int) ∧ ∀ u', u < u' → u' < t → zs.getD (g u') 0 ≠ x
  | 0, x, v, a, h => by simp [stF] at h
  | t + 1, x, v, a, h => by
    unfold stF upd at h
    by_cases e : x = zs.getD (g t) 0
    · rw [if_pos e] at h
      simp only [Option.some.injEq, Prod.mk.injEq] at h
      exact ⟨t, by omega, e.symm, h.1.symm, h.2.symm, fun u' h1 h2 => by omega⟩
    · rw [if_neg e] at h
      obtain ⟨u, h1, h2, h3, h4, h5⟩ := stF_val t x v a h
      refine ⟨u, by omega, h2, h3, h4, fun u' k1 k2 => ?_⟩
      by_cases e' : u' = t
      · subst e'; exact fun hh => e hh.symm
      · exact h5 u' k1 (by omega)

theorem stL_all : ∀ (t : Nat), Srt (stL zs vs g t) ∧ (∀ x, x ∈ stL zs vs g t ↔ (stF zs vs g t x).isSome = true) ∧ stC zs vs g t = (stL zs vs g t).length ∧ (stL zs vs g t).length ≤ t
  | 0 => ⟨List.Pairwise.nil, fun x => by simp [stL, stF], rfl, Nat.le_refl _⟩
  | t + 1 => by
    obtain ⟨h1, h2, h3, h4⟩ := stL_all t
    have hm := h2 (zs.getD (g t) 0)
    unfold stL stC putL putC
    by_cases hf : (stF zs vs g t (zs.getD (g t) 0)).isSome = true
    · rw [if_pos hf, if_pos hf]
      refine ⟨h1, fun x => ?_, h3, by omega⟩
      rw [h2 x, stF_succ]
      by_cases e : x = zs.getD (g t) 0
      · rw [if_pos e, e, hf]; simp
      · rw [if_neg e]
    · rw [if_neg hf, if_neg hf]
      refine ⟨srt_ins _ _ h1 (fun hh => hf (hm.1 hh)), fun x => ?_, by rw [length_ins, h3], by rw [length_ins]; omega⟩
      rw [mem_ins, h2 x, stF_succ]
      by_cases e : x = zs.getD (g t) 0
      · rw [if_pos e]; exact ⟨fun _ => rfl, fun _ => .inl e⟩
      · rw [if_neg e]; exact ⟨fun h => h.resolve_left e, .inr⟩

theorem stL_mem (t : Nat) (x : Int) : x ∈ stL zs vs g t ↔ ∃ u, u < t ∧ zs.getD (g u) 0 = x := by
  rw [(stL_all zs vs g t).2.1 x, stF_some]
end

/-- Forwards and backwards the numbers are the same. -/
theorem stL_rev (zs vs : List Int) (n : Nat) : stL zs vs (fun t => t) n = stL zs vs (fun t => n - 1 - t) n := by
  refine srt_ext _ _ (stL_all zs vs _ n).1 (stL_all zs vs _ n).1 fun x => ?_
  rw [stL_mem, stL_mem]
  constructor
  · rintro ⟨u, h1, h2⟩
    exact ⟨n - 1 - u, by omega, by rw [show n - 1 - (n - 1 - u) = u by omega]; exact h2⟩
  · rintro ⟨u, h1, h2⟩
    exact ⟨n - 1 - u, by omega, h2⟩

/-- How often x stands among the first j. -/
def cnt (zs : List Int) : Nat → Int → Nat
  | 0, _ => 0
  | j + 1, x => cnt zs j x + if zs.getD j 0 = x then 1 else 0
/-- Where x stands first among the first j. -/
def fst (zs : List Int) : Nat → Int → Option Nat
  | 0, _ => none
  | j + 1, x => match fst zs j x with | some i => some i | none => if zs.getD j 0 = x then some j else none

theorem cnt_le (zs : List Int) : ∀ (j : Nat) (x : Int), cnt zs j x ≤ j
  | 0, x => Nat.le_refl _
  | j + 1, x => by have := cnt_le zs j x; unfold cnt; split <;> omega

theorem cnt_pos (zs : List Int) : ∀ (j : Nat) (x : Int) (i : Nat), i < j → zs.getD i 0 = x → 1 ≤ cnt zs j x
  | 0, x, i, h, _ => by omega
  | j + 1, x, i, h, hx => by
    unfold cnt
    by_cases e : i = j
    · subst e; rw [if_pos hx]; omega
    · have := cnt_pos zs j x i (by omega) hx; omega

theorem cnt_two (zs : List Int) : ∀ (j : Nat) (x : Int) (i k : Nat), i < k → k < j → zs.getD i 0 = x → zs.getD k 0 = x → 2 ≤ cnt zs j x
  | 0, x, i, k, _, h, _, _ => by omega
  | j + 1, x, i, k, h1, h2, hi, hk => by
    unfold cnt
    by_cases e : k = j
    · subst e
      have := cnt_pos zs k x i h1 hi
      rw [if_pos hk]; omega
    · have := cnt_two zs j x i k h1 (by omega) hi hk; omega

theorem fst_none (zs : List Int) : ∀ (j : Nat) (x : Int), fst zs j x = none ↔ cnt zs j x = 0
  | 0, x => by simp [fst, cnt]
  | j + 1, x => by
    have ih := fst_none zs j x
    unfold fst cnt
    cases hf : fst zs j x with
    | some i =>
      have : cnt zs j x ≠ 0 := fun h => by rw [ih.2 h] at hf; cases hf
      simp; omega
    | none =>
      have := ih.1 hf
      by_cases e : zs.getD j 0 = x
      · simp only [if_pos e]; simp
      · simp only [if_neg e]; simp [this]

theorem fst_some (zs : List Int) : ∀ (j : Nat) (x : Int) (i : Nat), fst zs j x = some i → i < j ∧ zs.getD i 0 = x ∧ ∀ k, k < i → zs.getD k 0 ≠ x
  | 0, x, i, h => by simp [fst] at h
  | j + 1, x, i, h => by
    unfold fst at h
    cases hf : fst zs j x with
    | some i' =>
      rw [hf] at h
      simp only [Option.some.injEq] at h
      subst h
      obtain ⟨h1, h2, h3⟩ := fst_some zs j x i' hf
      exact ⟨by omega, h2, h3⟩
    | none =>
      rw [hf] at h
      have hc := (fst_none zs j x).1 hf
      by_cases e : zs.getD j 0 = x
      · simp only [if_pos e, Option.some.injEq] at h
        subst h
        refine ⟨by omega, e, fun k hk hh => ?_⟩
        have := cnt_pos zs j x k hk hh
        omega
      · rw [if_neg e] at h; cases h

/-- At a number that is held: the first index, what either way holds. -/
theorem at_held (zs vs : List Int) (n : Nat) (x : Int) (hx : x ∈ stL zs vs (fun t => t) n) :
    ∃ (i0 i1 : Nat), i0 < n ∧ i1 < n ∧ fst zs n x = some i0 ∧ stF zs vs (fun t => n - 1 - t) n x = some (vs.getD i0 0, (i0 : Int)) ∧ stF zs vs (fun t => t) n x = some (vs.getD i1 0, (i1 : Int)) ∧ (cnt zs n x = 1 → i1 = i0) := by
  have hs1 := ((stL_all zs vs (fun t => t) n).2.1 x).1 hx
  obtain ⟨⟨v1, a1⟩, e1⟩ := Option.isSome_iff_exists.1 hs1
  have hx2 : x ∈ stL zs vs (fun t => n - 1 - t) n := by rw [← stL_rev]; exact hx
  have hs2 := ((stL_all zs vs (fun t => n - 1 - t) n).2.1 x).1 hx2
  obtain ⟨⟨v2, a2⟩, e2⟩ := Option.isSome_iff_exists.1 hs2
  obtain ⟨u1, h1, h2, h3, h4, h5⟩ := stF_val zs vs _ n x v1 a1 e1
  obtain ⟨u2, k1, k2, k3, k4, k5⟩ := stF_val zs vs _ n x v2 a2 e2
  have hne : fst zs n x ≠ none := fun h => by
    have := (fst_none zs n x).1 h
    have := cnt_pos zs n x u1 h1 h2
    omega
  cases hf : fst zs n x with
  | none => exact absurd hf hne
  | some i0 =>
    obtain ⟨f1, f2, f3⟩ := fst_some zs n x i0 hf
    have hi : n - 1 - u2 = i0 := by
      by_cases hlt : n - 1 - u2 < i0
      · exact absurd k2 (f3 _ hlt)
      · by_cases hgt : i0 < n - 1 - u2
        · have := k5 (n - 1 - i0) (by omega) (by omega)
          rw [show n - 1 - (n - 1 - i0) = i0 by omega] at this
          exact absurd f2 this
        · omega
    refine ⟨i0, u1, f1, h1, rfl, ?_, ?_, fun hc => ?_⟩
    · rw [e2, k3, k4, hi]
    · rw [e1, h3, h4]
    · by_cases hlt : u1 < i0
      · exact absurd h2 (f3 _ hlt)
      · by_cases hgt : i0 < u1
        · have := cnt_two zs n x i0 u1 hgt h1 f2 h2
          omega
        · omega
end Go.Proofs.Qxb6602992a
