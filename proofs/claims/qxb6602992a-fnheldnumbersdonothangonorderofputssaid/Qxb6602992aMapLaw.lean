import Derived.Test.Qxb6602992aProg
import Derived.Maps.OwnSet
import Derived.KernelRfl
namespace Go.Proofs.Qxb6602992a
open Go.RowKit
set_option linter.unusedVariables false

/-- A uint64. -/
def U64 (x : Int) : Prop := 0 ≤ x ∧ x ≤ 18446744073709551615

theorem wf_u64 {x : Int} (h : U64 x) : (Lit.int .u64 x).wf = true := by
  obtain ⟨h0, h1⟩ := h
  simp [Lit.wf, IntKind.min, IntKind.max, IntKind.signed, IntKind.bits]
  omega

theorem keyed : Maps.Keyed Try.prog 23 := Maps.int_keyed Try.underlying23
theorem key_u64 {x : Int} (h : U64 x) : keyOf Try.prog 23 (.int .u64 x) = some (.int .u64 x) := Maps.keyOf_int_mk Try.underlying23 (wf_u64 h)

/-- BLOCK b IS A MAP KEYED BY uint64: at key x it holds what reads as 'f x'; c entries; nb: a bound on them. -/
def UMap (R : Value → Option (DataW Unit × List MemPlace)) (w : World) (b nb : Nat) (f : Int → Option (DataW Unit)) (c : Nat) : Prop :=
  ∃ D, w.ownsMap Try.prog 23 R b nb D ∧ Maps.size D = c ∧ ∀ x, U64 x → Maps.has D (.int .u64 x) = (f x).isSome ∧ ∀ z, D.atKey (.int .u64 x) z = (f x).getD z

def upd {α : Type} (f : Int → Option α) (x : Int) (d : α) : Int → Option α := fun y => if y = x then some d else f y

variable {R : Value → Option (DataW Unit × List MemPlace)} {w : World} {b nb c : Nat} {f : Int → Option (DataW Unit)}

theorem UMap.made (R : Value → Option (DataW Unit × List MemPlace)) (w : World) : UMap R (w.alloc (.map #[] 0)) w.heap.size 0 (fun _ => none) 0 :=
  ⟨_, World.ownsMap_made w Try.prog 23 R, rfl, fun x _ => ⟨rfl, fun z => rfl⟩⟩

theorem UMap.kept {w' : World} {row : Option Nat} (h : UMap R w b nb f c) (hg : w.grownBy w' row) (hne : some b ≠ row) : UMap R w' b nb f c := by
  obtain ⟨D, h1, h2⟩ := h
  exact ⟨D, h1.kept hg hne, h2⟩

theorem UMap.of_block {w' : World} (h : UMap R w b nb f c) (e : w'.heap[b]? = w.heap[b]?) : UMap R w' b nb f c := by
  obtain ⟨D, ⟨es, clock, hb, h1⟩, h2⟩ := h
  exact ⟨D, ⟨es, clock, e.trans hb, h1⟩, h2⟩

theorem UMap.lt (h : UMap R w b nb f c) : b < w.heap.size := by
  obtain ⟨D, h1, h2⟩ := h
  exact h1.lt

theorem UMap.count_le (h : UMap R w b nb f c) : c ≤ nb := by
  obtain ⟨D, h1, h2, _⟩ := h
  rw [← h2]; exact h1.size_le

theorem UMap.look_ok {t e : TypeId} (h : UMap R w b nb f c) (ht : Try.prog.underlying t = some (.map 23 e)) {z : Value} (hz : (zeroValue e).run Try.prog w = .ok z w) {zd : DataW Unit} {zp : List MemPlace} (hzd : R z = some (zd, zp))
    {x : Int} (hx : U64 x) : ∃ v ps, (Instr.lookup t (.map (some b)) (.int .u64 x) true).run Try.prog w = .ok (.tuple #[v, .bool (f x).isSome]) w ∧ R v = some ((f x).getD zd, ps) := by
  obtain ⟨D, h1, h2, h3⟩ := h
  obtain ⟨v, ps, hr, hv⟩ := h1.look_ok keyed ht hz hzd (key_u64 hx)
  rw [(h3 x hx).1] at hr
  rw [(h3 x hx).2] at hv
  exact ⟨v, ps, hr, hv⟩

theorem UMap.look {t e : TypeId} (h : UMap R w b nb f c) (ht : Try.prog.underlying t = some (.map 23 e)) {z : Value} (hz : (zeroValue e).run Try.prog w = .ok z w) {zd : DataW Unit} {zp : List MemPlace} (hzd : R z = some (zd, zp))
    {x : Int} (hx : U64 x) : ∃ v ps, (Instr.lookup t (.map (some b)) (.int .u64 x) false).run Try.prog w = .ok v w ∧ R v = some ((f x).getD zd, ps) := by
  obtain ⟨D, h1, h2, h3⟩ := h
  obtain ⟨v, ps, hr, hv⟩ := h1.lookup keyed ht hz hzd (key_u64 hx)
  rw [(h3 x hx).2] at hv
  exact ⟨v, ps, hr, hv⟩

theorem UMap.len {t e : TypeId} (h : UMap R w b nb f c) (ht : Try.prog.underlying t = some (.map 23 e)) (ty : TypeId) : (Builtin.len_ #[t] ty #[.map (some b)]).run Try.prog w = .ok (.int .i64 (c : Int)) w := by
  obtain ⟨D, h1, h2, h3⟩ := h
  rw [← h2]; exact h1.len ht ty

theorem UMap.update {t e : TypeId} (h : UMap R w b nb f c) (ht : Try.prog.underlying t = some (.map 23 e)) (hn : nb < maxLen) {x : Int} (hx : U64 x) {val : Value} {d : DataW Unit} {ps : List MemPlace} (hv : R val = some (d, ps)) :
    ∃ w', (Instr.mapUpdate t (.map (some b)) (.int .u64 x) val).run Try.prog w = .ok () w' ∧ UMap R w' b (nb + 1) (upd f x d) (if (f x).isSome then c else c + 1) ∧ w.grownBy w' (some b) := by
  obtain ⟨D, h1, h2, h3⟩ := h
  obtain ⟨w', hr, h1', hg⟩ := h1.update keyed ht hn (key_u64 hx) hv
  have hk : WideAt.IsKeyLit (.int .u64 x) := keyed.key (key_u64 hx)
  refine ⟨w', hr, ⟨_, h1', ?_, fun y hy => ?_⟩, hg⟩
  · rw [Maps.size_put (h1.tidy keyed), h2, (h3 x hx).1]
  · by_cases e : y = x
    · subst e
      refine ⟨?_, fun z => ?_⟩
      · rw [Maps.has_put_same h1.isMap hk]; simp [upd]
      · rw [Maps.atKey_put_same h1.isMap hk]; simp [upd]
    · have hne : (Lit.int .u64 y) ≠ .int .u64 x := by simpa using e
      refine ⟨?_, fun z => ?_⟩
      · rw [Maps.has_put_other hne, (h3 y hy).1]; simp [upd, e]
      · rw [Maps.atKey_put_other hne, (h3 y hy).2]; simp [upd, e]

end Go.Proofs.Qxb6602992a
