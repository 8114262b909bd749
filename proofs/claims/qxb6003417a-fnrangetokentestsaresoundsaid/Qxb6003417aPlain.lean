import Derived.Lib.Bytealg
import Derived.Lib.Bytes
/-! The plain mathematics of the range tests: no Go in sight. -/
namespace Go.Proofs.Qxb6003417a
set_option linter.unusedVariables false

/-- Token number i of the bytes: the high half first. -/
def tok (zs : List Int) (i : Nat) : Int := if i % 2 = 0 then zs.getD (i / 2) 0 / 16 else zs.getD (i / 2) 0 % 16

theorem tok_zero (x : Int) (l : List Int) : tok (x :: l) 0 = x / 16 := by simp [tok]
theorem tok_one (x : Int) (l : List Int) : tok (x :: l) 1 = x % 16 := by simp [tok]
theorem tok_cons (x : Int) (l : List Int) (i : Nat) : tok (x :: l) (i + 2) = tok l i := by
  unfold tok
  have h1 : (i + 2) % 2 = i % 2 := by omega
  have h2 : (i + 2) / 2 = i / 2 + 1 := by omega
  rw [h1, h2]; simp

/-- Lexicographic comparison. -/
def cmpI : List Int → List Int → Int
  | [], [] => 0
  | [], _ :: _ => -1
  | _ :: _, [] => 1
  | a :: as, b :: bs => if a < b then -1 else if b < a then 1 else cmpI as bs

theorem u8_lt {x y : Int} (hx : 0 ≤ x ∧ x ≤ 255) (hy : 0 ≤ y ∧ y ≤ 255) : (x.toNat.toUInt8 < y.toNat.toUInt8) ↔ x < y := by
  rw [UInt8.lt_iff_toNat_lt]
  have e1 : x.toNat.toUInt8.toNat = x.toNat := by show x.toNat % 256 = _; omega
  have e2 : y.toNat.toUInt8.toNat = y.toNat := by show y.toNat % 256 = _; omega
  rw [e1, e2]; omega

theorem compare_eq : ∀ (a b : List Int), (∀ n ∈ a, 0 ≤ n ∧ n ≤ 255) → (∀ n ∈ b, 0 ≤ n ∧ n ≤ 255) → Lib.compareBytes (Lib.bytesOf a) (Lib.bytesOf b) = cmpI a b
  | [], [], _, _ => rfl
  | [], _ :: _, _, _ => rfl
  | _ :: _, [], _, _ => rfl
  | x :: a, y :: b, ha, hb => by
    have ih := compare_eq a b (fun n h => ha n (List.mem_cons_of_mem _ h)) (fun n h => hb n (List.mem_cons_of_mem _ h))
    have hx := ha x (List.mem_cons_self ..)
    have hy := hb y (List.mem_cons_self ..)
    show (if x.toNat.toUInt8 < y.toNat.toUInt8 then (-1 : Int) else if y.toNat.toUInt8 < x.toNat.toUInt8 then 1 else Lib.compareBytes (Lib.bytesOf a) (Lib.bytesOf b)) = if x < y then -1 else if y < x then 1 else cmpI a b
    simp only [u8_lt hx hy, u8_lt hy hx, ih]

theorem cmp_range : ∀ (a b : List Int), cmpI a b = -1 ∨ cmpI a b = 0 ∨ cmpI a b = 1
  | [], [] => .inr (.inl rfl)
  | [], _ :: _ => .inl rfl
  | _ :: _, [] => .inr (.inr rfl)
  | x :: a, y :: b => by
    have ih := cmp_range a b
    unfold cmpI
    split
    · exact .inl rfl
    · split
      · exact .inr (.inr rfl)
      · exact ih

theorem cmp_lt : ∀ (a b : List Int) (c : Nat), c < 2 * a.length → c < 2 * b.length → (∀ j, j < c → tok a j = tok b j) → tok a c < tok b c → cmpI a b = -1
  | [], _, c, h, _, _, _ => by simp at h
  | _ :: _, [], c, _, h, _, _ => by simp at h
  | x :: a, y :: b, 0, _, _, _, h => by
    rw [tok_zero, tok_zero] at h
    unfold cmpI; rw [if_pos (by omega)]
  | x :: a, y :: b, 1, _, _, he, h => by
    have h0 := he 0 (by omega)
    rw [tok_zero, tok_zero] at h0
    rw [tok_one, tok_one] at h
    unfold cmpI; rw [if_pos (by omega)]
  | x :: a, y :: b, c + 2, h1, h2, he, h => by
    have h0 := he 0 (by omega)
    have h01 := he 1 (by omega)
    rw [tok_zero, tok_zero] at h0
    rw [tok_one, tok_one] at h01
    have hxy : x = y := by omega
    rw [tok_cons, tok_cons] at h
    unfold cmpI; rw [if_neg (by omega), if_neg (by omega)]
    simp only [List.length_cons] at h1 h2
    refine cmp_lt a b c (by omega) (by omega) (fun j hj => ?_) h
    have := he (j + 2) (by omega)
    rwa [tok_cons, tok_cons] at this

theorem cmp_gt : ∀ (a b : List Int) (c : Nat), c < 2 * a.length → c < 2 * b.length → (∀ j, j < c → tok a j = tok b j) → tok b c < tok a c → cmpI a b = 1
  | [], _, c, h, _, _, _ => by simp at h
  | _ :: _, [], c, _, h, _, _ => by simp at h
  | x :: a, y :: b, 0, _, _, _, h => by
    rw [tok_zero, tok_zero] at h
    unfold cmpI; rw [if_neg (by omega), if_pos (by omega)]
  | x :: a, y :: b, 1, _, _, he, h => by
    have h0 := he 0 (by omega)
    rw [tok_zero, tok_zero] at h0
    rw [tok_one, tok_one] at h
    unfold cmpI; rw [if_neg (by omega), if_pos (by omega)]
  | x :: a, y :: b, c + 2, h1, h2, he, h => by
    have h0 := he 0 (by omega)
    have h01 := he 1 (by omega)
    rw [tok_zero, tok_zero] at h0
    rw [tok_one, tok_one] at h01
    have hxy : x = y := by omega
    rw [tok_cons, tok_cons] at h
    unfold cmpI; rw [if_neg (by omega), if_neg (by omega)]
    simp only [List.length_cons] at h1 h2
    refine cmp_gt a b c (by omega) (by omega) (fun j hj => ?_) h
    have := he (j + 2) (by omega)
    rwa [tok_cons, tok_cons] at this

theorem cmp_longer : ∀ (a b : List Int), b.length < a.length → (∀ j, j < 2 * b.length → tok a j = tok b j) → cmpI a b = 1
  | [], _, h, _ => by simp at h
  | _ :: _, [], _, _ => rfl
  | x :: a, y :: b, h, he => by
    have h0 := he 0 (by simp only [List.length_cons]; omega)
    have h01 := he 1 (by simp only [List.length_cons]; omega)
    rw [tok_zero, tok_zero] at h0
    rw [tok_one, tok_one] at h01
    unfold cmpI; rw [if_neg (by omega), if_neg (by omega)]
    simp only [List.length_cons] at h
    refine cmp_longer a b (by omega) (fun j hj => ?_)
    have := he (j + 2) (by simp only [List.length_cons]; omega)
    rwa [tok_cons, tok_cons] at this

/-- The first n tokens, made whole with a token 0 when their number is odd. -/
def leastOf : List Int → Nat → List Int
  | _, 0 => []
  | [], _ + 1 => []
  | x :: _, 1 => [x / 16 * 16]
  | x :: l, n + 2 => x :: leastOf l n

theorem least_ge : ∀ (k : List Int) (n : Nat) (s : List Int), n ≤ 2 * k.length → 0 ≤ cmpI (leastOf k n) s → 0 ≤ cmpI k s
  | k, 0, [], _, _ => by
    cases k with
    | nil => simp [cmpI]
    | cons x l => simp [cmpI]
  | k, 0, y :: s, _, h => by simp [leastOf, cmpI] at h
  | [], n + 1, _, h, _ => by simp at h
  | x :: l, 1, [], _, _ => by simp [cmpI]
  | x :: l, 1, y :: s, _, h => by
    simp only [leastOf, cmpI] at h ⊢
    by_cases h1 : x / 16 * 16 < y
    · rw [if_pos h1] at h; omega
    · rw [if_neg h1] at h
      by_cases h2 : y < x / 16 * 16
      · rw [if_neg (by omega), if_pos (by omega)]; omega
      · rw [if_neg h2] at h
        by_cases h3 : y < x
        · rw [if_neg (by omega), if_pos h3]; omega
        · rw [if_neg (by omega), if_neg h3]
          cases s with
          | nil => cases l with
            | nil => simp [cmpI]
            | cons z l => simp [cmpI]
          | cons z s => simp [cmpI] at h
  | x :: l, n + 2, [], _, _ => by simp [cmpI]
  | x :: l, n + 2, y :: s, hn, h => by
    simp only [leastOf, cmpI] at h ⊢
    by_cases h1 : x < y
    · rw [if_pos h1] at h; omega
    · rw [if_neg h1] at h ⊢
      by_cases h2 : y < x
      · rw [if_pos h2]; omega
      · rw [if_neg h2] at h ⊢
        simp only [List.length_cons] at hn
        exact least_ge l n s (by omega) h

theorem least_gt : ∀ (k : List Int) (n : Nat) (s : List Int), n ≤ 2 * k.length → 0 < cmpI (leastOf k n) s → 0 < cmpI k s
  | k, 0, [], _, h => by simp [leastOf, cmpI] at h
  | k, 0, y :: s, _, h => by simp [leastOf, cmpI] at h
  | [], n + 1, _, h, _ => by simp at h
  | x :: l, 1, [], _, _ => by simp [cmpI]
  | x :: l, 1, y :: s, _, h => by
    simp only [leastOf, cmpI] at h ⊢
    by_cases h1 : x / 16 * 16 < y
    · rw [if_pos h1] at h; omega
    · rw [if_neg h1] at h
      by_cases h2 : y < x / 16 * 16
      · rw [if_neg (by omega), if_pos (by omega)]; omega
      · rw [if_neg h2] at h
        cases s with
        | nil => simp [cmpI] at h
        | cons z s => simp [cmpI] at h
  | x :: l, n + 2, [], _, _ => by simp [cmpI]
  | x :: l, n + 2, y :: s, hn, h => by
    simp only [leastOf, cmpI] at h ⊢
    by_cases h1 : x < y
    · rw [if_pos h1] at h; omega
    · rw [if_neg h1] at h ⊢
      by_cases h2 : y < x
      · rw [if_pos h2]; omega
      · rw [if_neg h2] at h ⊢
        simp only [List.length_cons] at hn
        exact least_gt l n s (by omega) h

/-- Is the key in the range? -/
def holdsB (s : List Int) (after : Bool) (e : List Int) (hasEnd : Bool) (k : List Int) : Bool :=
  if cmpI k s < 0 ∨ (cmpI k s = 0 ∧ after = true) then false else if hasEnd = false then true else decide (cmpI k e ≤ 0)

theorem out_low {s : List Int} {after : Bool} {e : List Int} {hasEnd : Bool} {k : List Int} (h : cmpI k s = -1) : holdsB s after e hasEnd k = false := by
  unfold holdsB; rw [if_pos (.inl (by omega))]

theorem out_high {s : List Int} {after : Bool} {e : List Int} {k : List Int} (h : cmpI k e = 1) : holdsB s after e true k = false := by
  unfold holdsB; split
  · rfl
  · simp; omega

theorem in_low {s : List Int} {after : Bool} {e : List Int} {hasEnd : Bool} {k : List Int} {n : Nat} (hn : n ≤ 2 * k.length)
    (h : ¬ (cmpI (leastOf k n) s < 0 ∨ (cmpI (leastOf k n) s = 0 ∧ after = true))) (he : hasEnd = false ∨ cmpI k e = -1) : holdsB s after e hasEnd k = true := by
  unfold holdsB
  have hge := least_ge k n s hn
  have hgt := least_gt k n s hn
  rw [if_neg]
  · rcases he with rfl | he
    · rfl
    · split
      · rfl
      · simp; omega
  · intro hh
    apply h
    rcases hh with hh | ⟨hh, ha⟩
    · left; omega
    · by_cases h0 : cmpI (leastOf k n) s < 0
      · exact .inl h0
      · right; exact ⟨by omega, ha⟩

/-- Byte i behind j tokens set. -/
def tailAt (k : List Int) (j i : Nat) : Int := if 2 * i + 1 < j then k.getD i 0 else if 2 * i < j then k.getD i 0 / 16 * 16 else 0

theorem leastOf_length : ∀ (k : List Int) (n : Nat), n ≤ 2 * k.length → (leastOf k n).length = (n + 1) / 2
  | _, 0, _ => by simp [leastOf]
  | [], n + 1, h => by simp at h
  | x :: l, 1, _ => by simp [leastOf]
  | x :: l, n + 2, h => by
    simp only [List.length_cons] at h
    simp only [leastOf, List.length_cons, leastOf_length l n (by omega)]; omega

theorem leastOf_at : ∀ (k : List Int) (n i : Nat), n ≤ 2 * k.length → (leastOf k n).getD i 0 = tailAt k n i
  | _, 0, i, _ => by simp [leastOf, tailAt]
  | [], n + 1, i, h => by simp at h
  | x :: l, 1, 0, _ => by simp [leastOf, tailAt]
  | x :: l, 1, i + 1, _ => by
    unfold tailAt; rw [if_neg (by omega), if_neg (by omega)]; simp [leastOf]
  | x :: l, n + 2, 0, _ => by simp [leastOf, tailAt]
  | x :: l, n + 2, i + 1, h => by
    simp only [List.length_cons] at h
    have ih := leastOf_at l n i (by omega)
    simp only [leastOf, List.getD_cons_succ, ih]
    unfold tailAt
    have e1 : (2 * (i + 1) + 1 < n + 2) = (2 * i + 1 < n) := by simp; omega
    have e2 : (2 * (i + 1) < n + 2) = (2 * i < n) := by simp; omega
    simp only [e1, e2, List.getD_cons_succ]

theorem leastOf_bd : ∀ (k : List Int) (n : Nat), (∀ x ∈ k, 0 ≤ x ∧ x ≤ 255) → ∀ x ∈ leastOf k n, 0 ≤ x ∧ x ≤ 255
  | _, 0, _, x, h => by simp [leastOf] at h
  | [], n + 1, _, x, h => by simp [leastOf] at h
  | y :: l, 1, hb, x, h => by
    have := hb y (List.mem_cons_self ..)
    simp [leastOf] at h; omega
  | y :: l, n + 2, hb, x, h => by
    simp only [leastOf, List.mem_cons] at h
    rcases h with rfl | h
    · exact hb x (List.mem_cons_self ..)
    · exact leastOf_bd l n (fun z hz => hb z (List.mem_cons_of_mem _ hz)) x h

end Go.Proofs.Qxb6003417a
