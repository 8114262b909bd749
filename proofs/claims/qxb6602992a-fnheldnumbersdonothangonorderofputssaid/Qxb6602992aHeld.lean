import Derived.Test.Qxb6602992aOwn
namespace Go.Proofs.Qxb6602992a
open Go.RowKit Go.Lib
set_option linter.unusedVariables false

def msgCells (s v a : Int) : Array Value := #[.string ⟨#[]⟩, .string ⟨#[]⟩, .int .u64 0, .int .u64 s, .int .u64 v, .int .u64 a, .slice none 0 0, .slice none 0 0, .int .u64 0, .slice none 0 0]
/-- A layer.Message: Seq s, View v, After a, all else zero. -/
def msgV (s v a : Int) : Value := .agg (msgCells s v a)
def encM (s v a : Int) : DataW Unit := .agg [.lit (.int .u64 s), .lit (.int .u64 v), .lit (.int .u64 a)]

/-- How such a message reads. -/
def rMsg : Value → Option (DataW Unit × List MemPlace)
  | .agg cs => match cs.toList with
    | [.string s0, .string s1, .int .u64 0, .int .u64 s, .int .u64 v, .int .u64 a, .slice none 0 0, .slice none 0 0, .int .u64 0, .slice none 0 0] =>
      if s0.size = 0 ∧ s1.size = 0 then some (encM s v a, []) else none
    | _ => none
  | _ => none

theorem rMsg_mk (s v a : Int) : rMsg (msgV s v a) = some (encM s v a, []) := rfl

theorem size_zero {s : ByteArray} (h : s.size = 0) : s = ⟨#[]⟩ := by
  obtain ⟨⟨l⟩⟩ := s
  cases l with
  | nil => rfl
  | cons x l => simp [ByteArray.size] at h

theorem rMsg_inv {x : Value} {d : DataW Unit} {ps : List MemPlace} (h : rMsg x = some (d, ps)) : ∃ s v a, x = msgV s v a ∧ d = encM s v a := by
  unfold rMsg at h
  split at h
  · rename_i cs
    split at h
    · rename_i s0 s1 s v a hc
      split at h
      · rename_i h0
        simp only [Option.some.injEq, Prod.mk.injEq] at h
        refine ⟨s, v, a, ?_, h.1.symm⟩
        unfold msgV msgCells
        rw [← size_zero h0.1]
        congr 1
        apply Array.toList_inj.1
        rw [hc, size_zero h0.1, size_zero h0.2]
      · cases h
    · cases h
  · cases h

theorem encM_inj {s v a s' v' a' : Int} (h : encM s v a = encM s' v' a') : s = s' ∧ v = v' ∧ a = a' := by
  unfold encM at h
  simpa using h

def mf (f : Int → Option (Int × Int)) : Int → Option (DataW Unit) := fun x => (f x).map fun p => encM x p.1 p.2

theorem mf_upd (f : Int → Option (Int × Int)) (s v a : Int) : upd (mf f) s (encM s v a) = mf (upd f s (v, a)) := by
  funext y
  unfold upd mf
  by_cases h : y = s
  · subst h; simp
  · simp [h]

theorem mf_isSome (f : Int → Option (Int × Int)) (x : Int) : (mf f x).isSome = (f x).isSome := by simp [mf]

theorem zero39 (w : World) : (zeroValue 39).run Try.prog w = .ok (msgV 0 0 0) w := by kernel_rfl

/-- What stands at x, as a value. -/
def atV (f : Int → Option (Int × Int)) (x : Int) : Value := match f x with | some p => msgV x p.1 p.2 | none => msgV 0 0 0

theorem look_msg {w : World} {b nb c : Nat} {f : Int → Option (Int × Int)} (h : UMap rMsg w b nb (mf f) c) {x : Int} (hx : U64 x) :
    (Instr.lookup 60 (.map (some b)) (.int .u64 x) true).run Try.prog w = .ok (.tuple #[atV f x, .bool (f x).isSome]) w := by
  obtain ⟨v, ps, hr, hv⟩ := h.look_ok Try.underlying60 (zero39 w) (rMsg_mk 0 0 0) hx
  rw [mf_isSome] at hr
  rw [hr]
  obtain ⟨s', v', a', rfl, hd⟩ := rMsg_inv hv
  unfold atV
  unfold mf at hd
  cases hf : f x with
  | none =>
    rw [hf] at hd
    obtain ⟨rfl, rfl, rfl⟩ := encM_inj (show encM 0 0 0 = encM s' v' a' from hd)
    rfl
  | some p =>
    rw [hf] at hd
    obtain ⟨rfl, rfl, rfl⟩ := encM_inj (show encM x p.1 p.2 = encM s' v' a' from hd)
    rfl

/-! ### Sorted insertion -/

def ins (s : Int) : List Int → List Int
  | [] => [s]
  | y :: l => if y < s then y :: ins s l else s :: y :: l

theorem ins_at : ∀ (L : List Int) (s : Int) (p : Nat), p ≤ L.length → Lows L s p → Highs L s L.length p → L.take p ++ s :: L.drop p = ins s L
  | [], s, p, hp, _, _ => by simp [ins]
  | y :: l, s, 0, _, _, hh => by
    have := hh 0 (by omega) (by simp)
    simp at this
    simp [ins]; omega
  | y :: l, s, p + 1, hp, hl, hh => by
    have h0 : y < s := by simpa using hl 0 (by omega)
    have ih := ins_at l s p (by simpa using hp) (fun j hj => by simpa using hl (j + 1) (by omega)) (fun j h1 h2 => by simpa using hh (j + 1) (by omega) (by simpa using h2))
    simp [ins, h0, ih]

theorem ins_end (L : List Int) (s : Int) (h : ∀ y ∈ L, y < s) : ins s L = L ++ [s] := by
  induction L with
  | nil => rfl
  | cons y l ih =>
    have h0 := h y (List.mem_cons_self ..)
    simp [ins, h0, ih (fun z hz => h z (List.mem_cons_of_mem _ hz))]

theorem mem_ins (L : List Int) (s x : Int) : x ∈ ins s L ↔ x = s ∨ x ∈ L := by
  induction L with
  | nil => simp [ins]
  | cons y l ih =>
    unfold ins
    split
    · simp only [List.mem_cons, ih]
      constructor
      · rintro (h | h | h)
        · exact .inr (.inl h)
        · exact .inl h
        · exact .inr (.inr h)
      · rintro (h | h | h)
        · exact .inr (.inl h)
        · exact .inl h
        · exact .inr (.inr h)
    · simp only [List.mem_cons]

theorem length_ins (L : List Int) (s : Int) : (ins s L).length = L.length + 1 := by
  induction L with
  | nil => rfl
  | cons y l ih => unfold ins; split <;> simp [ih]

def Srt (L : List Int) : Prop := L.Pairwise (· < ·)

theorem srt_ins (L : List Int) (s : Int) (h : Srt L) (hs : s ∉ L) : Srt (ins s L) := by
  unfold Srt at *
  induction L with
  | nil => simp [ins]
  | cons y l ih =>
    rw [List.pairwise_cons] at h
    have hys : y ≠ s := fun e => hs (by simp [e])
    unfold ins
    split
    · rename_i hlt
      rw [List.pairwise_cons]
      refine ⟨fun z hz => ?_, ih h.2 (fun hm => hs (List.mem_cons_of_mem _ hm))⟩
      rw [mem_ins] at hz
      rcases hz with rfl | hz
      · exact hlt
      · exact h.1 z hz
    · rename_i hnl
      rw [List.pairwise_cons]
      refine ⟨fun z hz => ?_, List.pairwise_cons.2 h⟩
      rcases List.mem_cons.1 hz with rfl | hz
      · omega
      · have := h.1 z hz; omega

theorem srt_get {L : List Int} (h : Srt L) (i j : Nat) (hij : i < j) (hj : j < L.length) : L.getD i 0 < L.getD j 0 := by
  have := List.pairwise_iff_getElem.1 h i j (by omega) hj hij
  simpa [List.getD, List.getElem?_eq_getElem hj, List.getElem?_eq_getElem (show i < L.length by omega)] using this

theorem srt_ext : ∀ (A B : List Int), Srt A → Srt B → (∀ x, x ∈ A ↔ x ∈ B) → A = B
  | [], [], _, _, _ => rfl
  | [], y :: B, _, _, h => by have := (h y).2 (List.mem_cons_self ..); simp at this
  | x :: A, [], _, _, h => by have := (h x).1 (List.mem_cons_self ..); simp at this
  | x :: A, y :: B, ha, hb, h => by
    unfold Srt at ha hb
    rw [List.pairwise_cons] at ha hb
    have hxy : x = y := by
      have h1 := (h x).1 (List.mem_cons_self ..)
      have h2 := (h y).2 (List.mem_cons_self ..)
      rcases List.mem_cons.1 h1 with h1 | h1
      · exact h1
      · rcases List.mem_cons.1 h2 with h2 | h2
        · exact h2.symm
        · have := hb.1 x h1; have := ha.1 y h2; omega
    subst hxy
    rw [srt_ext A B ha.2 hb.2 (fun z => ?_)]
    constructor
    · intro hz
      have := ha.1 z hz
      rcases List.mem_cons.1 ((h z).1 (List.mem_cons_of_mem _ hz)) with e | e
      · omega
      · exact e
    · intro hz
      have := hb.1 z hz
      rcases List.mem_cons.1 ((h z).2 (List.mem_cons_of_mem _ hz)) with e | e
      · omega
      · exact e

/-! ### What the receiver's block is -/

/-- Below base all but block hb is as it was. -/
structure Keep (base hb : Nat) (w w' : World) : Prop where
  os : w'.os = w.os
  tape : w'.tape = w.tape
  output : w'.output = w.output
  size : w.heap.size ≤ w'.heap.size
  block : ∀ k, k < base → k ≠ hb → w'.heap[k]? = w.heap[k]?

theorem Keep.refl (base hb : Nat) (w : World) : Keep base hb w w := ⟨rfl, rfl, rfl, Nat.le_refl _, fun _ _ _ => rfl⟩
theorem Keep.trans {base hb : Nat} {a b c : World} (h : Keep base hb a b) (k : Keep base hb b c) : Keep base hb a c :=
  ⟨k.os.trans h.os, k.tape.trans h.tape, k.output.trans h.output, Nat.le_trans h.size k.size, fun i h1 h2 => (k.block i h1 h2).trans (h.block i h1 h2)⟩
theorem Keep.drew {base hb : Nat} {a b : World} (h : Keep base hb a b) : Keep base hb a b.drew := ⟨h.os, h.tape, h.output, h.size, h.block⟩
theorem Keep.alloc {base hb : Nat} {a b : World} (h : Keep base hb a b) (hB : base ≤ b.heap.size) (o : Obj) : Keep base hb a (b.alloc o) :=
  h.trans ⟨rfl, rfl, rfl, by simp, fun k hk _ => Below.heap_alloc _ _ _ (by omega)⟩
theorem Keep.setCell {base hb : Nat} {a b : World} (h : Keep base hb a b) (p : Addr) (hp : p.block = hb ∨ base ≤ p.block) (u : Value) : Keep base hb a (b.setCell p u) :=
  h.trans ⟨rfl, rfl, rfl, by simp [World.setCell], fun k hk hne => Below.heap_setCell _ _ _ _ (by rcases hp with hp | hp <;> omega)⟩
theorem Keep.grown {base hb : Nat} {a b c : World} {row : Option Nat} (h : Keep base hb a b) (hg : b.grownBy c row) (hB : base ≤ b.heap.size) (hr : ∀ k, row = some k → base ≤ k) : Keep base hb a c :=
  h.trans ⟨hg.os, hg.tape, hg.output, hg.size, fun k hk hne => hg.block k (by omega) (fun e => by have := hr k e.symm; omega)⟩

/-- BLOCK hb IS A heldMessages: its numbers L, its messages f, c of them (nb: a bound). -/
def Held (w : World) (base hb : Nat) (L : List Int) (f : Int → Option (Int × Int)) (c nb : Nat) : Prop :=
  hb < base ∧ base ≤ w.heap.size ∧ ∃ sv mv, w.heap[hb]? = some (.cells #[sv, mv] 62 (0, 0)) ∧ Owns w base sv L ∧
    ((mv = .map none ∧ L = [] ∧ c = 0 ∧ ∀ x, f x = none) ∨ ∃ b, mv = .map (some b) ∧ base ≤ b ∧ UMap rMsg w b nb (mf f) c)

theorem own_ne_map {w : World} {base : Nat} {v : Value} {L : List Int} {b nb c : Nat} {f : Int → Option (DataW Unit)} {R : Value → Option (DataW Unit × List MemPlace)} (h : Owns w base v L) (hm : UMap R w b nb f c) : v.ownBlock ≠ some b := by
  intro e
  rcases h.2 with ⟨rfl, _⟩ | ⟨g, cap, cur, rfl, hb, hh, _⟩
  · simp [Value.ownBlock] at e
  · simp [Value.ownBlock] at e
    subst e
    obtain ⟨D, ⟨es, clock, hb', _⟩, _⟩ := hm
    rw [hh] at hb'
    cases hb'
end Go.Proofs.Qxb6602992a
