import Derived.Test.Qxb6602992aSmall
import Derived.Test.Qxb6602992aPlain
namespace Go.Proofs.Qxb6602992a
open Go.RowKit
set_option linter.unusedVariables false

/-! Facts for the law's walk. -/

theorem plain_look {w : World} {b nb c : Nat} {f : Int → Option (DataW Unit)} (h : UMap (plainElem Try.prog 3) w b nb f c) {x : Int} (hx : U64 x) {k : Int} (hf : (f x).getD (.lit (.int .i64 0)) = .lit (.int .i64 k)) :
    (Instr.lookup 46 (.map (some b)) (.int .u64 x) false).run Try.prog w = .ok (.int .i64 k) w := by
  obtain ⟨v, ps, hr, hv⟩ := h.look Try.underlying46 (z := .int .i64 0) (by kernel_rfl) (plainElem_int Try.underlying3 (by decide)) hx
  obtain ⟨a, rfl, hz, _⟩ := plainElem_int_inv Try.underlying3 hv
  rw [hf] at hz
  simp only [Prod.mk.injEq, DataW.lit.injEq, Lit.int.injEq, true_and] at hz
  rw [hr, ← hz.1]

def tF (zs : List Int) (j : Nat) : Int → Option (DataW Unit) := fun x => if cnt zs j x = 0 then none else some (.lit (.int .i64 (cnt zs j x : Int)))
def fF (zs : List Int) (j : Nat) : Int → Option (DataW Unit) := fun x => (fst zs j x).map fun i => .lit (.int .i64 (i : Int))

theorem tF_get (zs : List Int) (j : Nat) (x : Int) : (tF zs j x).getD (.lit (.int .i64 0)) = .lit (.int .i64 (cnt zs j x : Int)) := by
  unfold tF
  split
  · rename_i h; rw [h]; rfl
  · rfl

theorem fF_get (zs : List Int) (j i : Nat) (x : Int) (h : fst zs j x = some i) : (fF zs j x).getD (.lit (.int .i64 0)) = .lit (.int .i64 (i : Int)) := by
  unfold fF; rw [h]; rfl

theorem tF_upd (zs : List Int) (j : Nat) : upd (tF zs j) (zs.getD j 0) (.lit (.int .i64 ((cnt zs j (zs.getD j 0) : Int) + 1))) = tF zs (j + 1) := by
  funext y
  unfold upd tF
  by_cases h : y = zs.getD j 0
  · rw [if_pos h, h]
    have e : cnt zs (j + 1) (zs.getD j 0) = cnt zs j (zs.getD j 0) + 1 := by
      show cnt zs j (zs.getD j 0) + (if zs.getD j 0 = zs.getD j 0 then 1 else 0) = _
      rw [if_pos rfl]
    rw [e, if_neg (by omega)]
    rfl
  · rw [if_neg h]
    have e : cnt zs (j + 1) y = cnt zs j y := by
      show cnt zs j y + (if zs.getD j 0 = y then 1 else 0) = _
      rw [if_neg (fun hh => h hh.symm)]; rfl
    rw [e]

theorem fst_succ (zs : List Int) (j : Nat) (y : Int) : fst zs (j + 1) y = match fst zs j y with | some i => some i | none => if zs.getD j 0 = y then some j else none := rfl

theorem fF_new (zs : List Int) (j : Nat) (h : cnt zs j (zs.getD j 0) = 0) : upd (fF zs j) (zs.getD j 0) (.lit (.int .i64 (j : Int))) = fF zs (j + 1) := by
  funext y
  unfold upd fF
  rw [fst_succ]
  by_cases e : y = zs.getD j 0
  · rw [if_pos e, e, (fst_none zs j (zs.getD j 0)).2 h]
    simp
  · rw [if_neg e]
    cases fst zs j y with
    | some i => rfl
    | none => simp only [if_neg (fun hh => e (Eq.symm hh))]

theorem fF_old (zs : List Int) (j : Nat) (h : cnt zs j (zs.getD j 0) ≠ 0) : fF zs j = fF zs (j + 1) := by
  funext y
  unfold fF
  rw [fst_succ]
  cases hf : fst zs j y with
  | some i => rfl
  | none =>
    by_cases e : zs.getD j 0 = y
    · subst e; exact absurd ((fst_none zs j _).1 hf) h
    · simp only [if_neg e]

theorem wf_i64 {k : Int} (h0 : 0 ≤ k) (h1 : k ≤ 1048576) : (Lit.int .i64 k).wf = true := by
  simp [Lit.wf, IntKind.min, IntKind.max, IntKind.signed, IntKind.bits]
  omega

theorem plain_put {w : World} {b nb c : Nat} {f : Int → Option (DataW Unit)} (h : UMap (plainElem Try.prog 3) w b nb f c) (hn : nb ≤ 1048576) {x : Int} (hx : U64 x) {k : Int} (h0 : 0 ≤ k) (h1 : k ≤ 1048576) :
    ∃ w', (Instr.mapUpdate 46 (.map (some b)) (.int .u64 x) (.int .i64 k)).run Try.prog w = .ok () w' ∧ UMap (plainElem Try.prog 3) w' b (nb + 1) (upd f x (.lit (.int .i64 k))) (if (f x).isSome then c else c + 1) ∧ w.grownBy w' (some b) :=
  h.update Try.underlying46 (by unfold maxLen; omega) hx (plainElem_int Try.underlying3 (wf_i64 h0 h1))

/-- A heldMessages, the rest of memory having turned elsewhere. -/
theorem Held.other {w w' : World} {base hb hx : Nat} {L : List Int} {f : Int → Option (Int × Int)} {c nb : Nat} (h : Held w base hb L f c nb) (hne : hb ≠ hx) (hxb : hx < base) (hsz : w.heap.size ≤ w'.heap.size)
    (hk : ∀ k, k < w.heap.size → k ≠ hx → w'.heap[k]? = w.heap[k]?) : Held w' base hb L f c nb := by
  obtain ⟨h1, h2, sv, mv, hh, ho, hm⟩ := h
  refine ⟨h1, Nat.le_trans h2 hsz, sv, mv, ?_, ?_, ?_⟩
  · rw [hk hb (by omega) hne]; exact hh
  · obtain ⟨o1, o2⟩ := ho
    refine ⟨o1, ?_⟩
    rcases o2 with o2 | ⟨g, cap, cur, hv, hb', hg, hr⟩
    · exact .inl o2
    · exact .inr ⟨g, cap, cur, hv, hb', by rw [hk g (Array.getElem?_eq_some_iff.1 hg).1 (by omega)]; exact hg, hr⟩
  · rcases hm with hm | ⟨b, rfl, hb1, hu⟩
    · exact .inl hm
    · exact .inr ⟨b, rfl, hb1, hu.of_block (hk b hu.lt (by omega))⟩

/-- The receiver as ZZNewHeld lays it. -/
theorem Held.new {w : World} {base hb : Nat} (h1 : hb < base) (h2 : base ≤ w.heap.size) (hh : w.heap[hb]? = some (.cells #[.slice none 0 0, .map none] 62 (0, 0))) : Held w base hb [] (fun _ => none) 0 0 :=
  ⟨h1, h2, _, _, hh, World.ownsRow_nil w base 23 1, .inl ⟨rfl, rfl, rfl, fun _ => rfl⟩⟩

/-- What the three small functions need of it. -/
theorem Held.seqs {w : World} {base hb : Nat} {L : List Int} {f : Int → Option (Int × Int)} {c nb : Nat} (h : Held w base hb L f c nb) (hl : L.length ≤ 4096) (hu : ∀ x ∈ L, U64 x) :
    ∃ o cap, w.cell? ⟨hb, 0, none⟩ = some (.slice o L.length cap) ∧ Rs w o L.length L := by
  obtain ⟨h1, h2, sv, mv, hh, ho, hm⟩ := h
  by_cases hp : 0 < L.length
  · obtain ⟨g, cap, fr, rfl, hb, hlc, hcm, hr, hf⟩ := ho.row hp
    exact ⟨some ⟨g, 0, none⟩, cap, by simp [World.cell?, hh], rfl, hl, hu, .inr ⟨g, 0, rfl, hr.lt, fun i hi => by rw [Nat.zero_add, hr.cell (by omega), hf i hi]⟩⟩
  · have h0 : L.length = 0 := by omega
    rcases ho.2 with ⟨rfl, _⟩ | ⟨g, cap, cur, rfl, _⟩
    · exact ⟨none, 0, by rw [h0]; simp [World.cell?, hh], rfl, hl, hu, .inl h0⟩
    · exact ⟨some ⟨g, 0, none⟩, cap, by simp [World.cell?, hh], rfl, hl, hu, .inl h0⟩

theorem Held.count {w : World} {base hb : Nat} {L : List Int} {f : Int → Option (Int × Int)} {c nb : Nat} (h : Held w base hb L f c nb) :
    ∃ r, w.cell? ⟨hb, 1, none⟩ = some (.map r) ∧ ∀ (w' : World), w'.heap = w.heap → ∀ ty, (Builtin.len_ #[60] ty #[.map r]).run Try.prog w' = .ok (.int .i64 (c : Int)) w' := by
  obtain ⟨h1, h2, sv, mv, hh, ho, hm⟩ := h
  rcases hm with ⟨rfl, _, rfl, _⟩ | ⟨b, rfl, _, hu⟩
  · exact ⟨none, by simp [World.cell?, hh], fun w' _ ty => Maps.len_nil Try.underlying60 ty⟩
  · exact ⟨some b, by simp [World.cell?, hh], fun w' e ty => (hu.of_block (w' := w') (by rw [e])).len Try.underlying60 ty⟩

theorem Held.get {w : World} {base hb : Nat} {L : List Int} {f : Int → Option (Int × Int)} {c nb : Nat} (h : Held w base hb L f c nb) {x v a : Int} (hx : U64 x) (hf : f x = some (v, a)) :
    ∃ b, w.cell? ⟨hb, 1, none⟩ = some (.map (some b)) ∧ hb < w.heap.size ∧ ∀ (w' : World), (∀ k, k < w.heap.size → w'.heap[k]? = w.heap[k]?) → ∀ o, (Instr.lookup 60 (.map (some b)) (.int .u64 x) true).run Try.prog (w'.alloc o) = .ok (.tuple #[msgV x v a, .bool true]) (w'.alloc o) := by
  obtain ⟨h1, h2, sv, mv, hh, ho, hm⟩ := h
  rcases hm with ⟨rfl, _, _, hn⟩ | ⟨b, rfl, _, hu⟩
  · rw [hn x] at hf; cases hf
  · refine ⟨b, by simp [World.cell?, hh], by omega, fun w' hk o => ?_⟩
    have hu' : UMap rMsg w' b nb (mf f) c := hu.of_block (hk b hu.lt)
    have := look_msg (w := w'.alloc o) (hu'.of_block (Below.heap_alloc _ _ _ hu'.lt)) hx
    rw [this]
    unfold atV
    rw [hf]
    rfl
end Go.Proofs.Qxb6602992a
