import Derived.Test.Qxb6003417aProg
import Derived.WalkKit
import Derived.WalkSpells
import Derived.WalkLawsBesides
import Derived.Below
import Derived.Outline
import Derived.Lib.BytesEntry
import Derived.Test.Qxb6003417aPlain
namespace Go.Proofs.Qxb6003417a
open Go.RowKit
set_option linter.unusedVariables false

/-- A []byte that is read: its bytes are 'zs'. -/
def Bs (w : World) (a : Option Addr) (len : Nat) (zs : List Int) : Prop :=
  zs.length = len ∧ len ≤ 1048576 ∧ (∀ n ∈ zs, 0 ≤ n ∧ n ≤ 255) ∧
  (len = 0 ∨ ∃ b off, a = some ⟨b, off, none⟩ ∧ b < w.heap.size ∧ ∀ i, i < len → w.cell? ⟨b, off + i, none⟩ = some (.int .u8 (zs.getD i 0)))

theorem Bs.below {w w' : World} {a : Option Addr} {len : Nat} {zs : List Int} (h : Bs w a len zs) (hb : Below w.heap.size w w') : Bs w' a len zs := by
  obtain ⟨h1, h2, h3, h4⟩ := h
  refine ⟨h1, h2, h3, ?_⟩
  rcases h4 with h4 | ⟨b, off, rfl, hlt, hc⟩
  · exact .inl h4
  · refine .inr ⟨b, off, rfl, Nat.lt_of_lt_of_le hlt hb.size, fun i hi => ?_⟩
    rw [hb.cell (p := ⟨b, off + i, none⟩) hlt]; exact hc i hi

set_option maxHeartbeats 400000 in
theorem at_even (b off len cap : Nat) (n i x : Int) (w : World) (h0 : 0 ≤ i) (hi : i < 2 * len) (hev : (i % 2 == 0) = true) (hl : len ≤ 1048576) (hx0 : 0 ≤ x) (hx : x ≤ 255) (hb : b < w.heap.size)
    (hc : w.cell? ⟨b, off + (i / 2).toNat, none⟩ = some (.int .u8 x)) :
    Calls Try.prog 50 #[.agg #[.slice (some ⟨b, off, none⟩) len cap, .int .i64 n], .int .i64 i] w fun e w' => e = .returned (.int .u8 (x / 16)) ∧ Below w.heap.size w w' := by
  go_enter Try.func50, Try.ntmps50
  go_wp2
  go_ret
  exact ⟨rfl, (Below.refl _ _).alloc (Nat.le_refl _) _⟩

set_option maxHeartbeats 400000 in
theorem at_odd (b off len cap : Nat) (n i x : Int) (w : World) (h0 : 0 ≤ i) (hi : i < 2 * len) (hev : (i % 2 == 0) = false) (hl : len ≤ 1048576) (hx0 : 0 ≤ x) (hx : x ≤ 255) (hb : b < w.heap.size)
    (hc : w.cell? ⟨b, off + (i / 2).toNat, none⟩ = some (.int .u8 x)) :
    Calls Try.prog 50 #[.agg #[.slice (some ⟨b, off, none⟩) len cap, .int .i64 n], .int .i64 i] w fun e w' => e = .returned (.int .u8 (x % 16)) ∧ Below w.heap.size w w' := by
  go_enter Try.func50, Try.ntmps50
  go_wp2
  go_ret
  exact ⟨rfl, (Below.refl _ _).alloc (Nat.le_refl _) _⟩

theorem at_any (a : Option Addr) (len cap : Nat) (n i : Int) (zs : List Int) (w : World) (h : Bs w a len zs) (h0 : 0 ≤ i) (hi : i < 2 * len) :
    Calls Try.prog 50 #[.agg #[.slice a len cap, .int .i64 n], .int .i64 i] w fun e w' => e = .returned (.int .u8 (tok zs i.toNat)) ∧ Below w.heap.size w w' := by
  obtain ⟨h1, h2, h3, h4⟩ := h
  rcases h4 with h4 | ⟨b, off, rfl, hlt, hc⟩
  · omega
  · have hk : (i / 2).toNat < len := by omega
    have hx : 0 ≤ zs.getD (i / 2).toNat 0 ∧ zs.getD (i / 2).toNat 0 ≤ 255 := by
      have hl : (i / 2).toNat < zs.length := by omega
      have e : zs.getD (i / 2).toNat 0 = zs[(i / 2).toNat] := by simp [List.getD, List.getElem?_eq_getElem hl]
      rw [e]; exact h3 _ (List.getElem_mem hl)
    have ed : i.toNat / 2 = (i / 2).toNat := by omega
    by_cases hev : i % 2 = 0
    · have := at_even b off len cap n i _ w h0 hi (by simpa using hev) h2 hx.1 hx.2 hlt (hc _ hk)
      have et : tok zs i.toNat = zs.getD (i / 2).toNat 0 / 16 := by unfold tok; rw [if_pos (by omega), ed]
      rw [et]; exact this
    · have := at_odd b off len cap n i _ w h0 hi (by simpa using hev) h2 hx.1 hx.2 hlt (hc _ hk)
      have et : tok zs i.toNat = zs.getD (i / 2).toNat 0 % 16 := by unfold tok; rw [if_neg (by omega), ed]
      rw [et]; exact this

set_option maxHeartbeats 400000 in
theorem keyPath_any (a : Option Addr) (len cap : Nat) (w : World) (hl : len ≤ 1048576) :
    Calls Try.prog 52 #[.slice a len cap] w fun e w' => e = .returned (.agg #[.slice a len cap, .int .i64 (2 * (len : Int))]) ∧ Below w.heap.size w w' := by
  go_enter Try.func52, Try.ntmps52
  go_wp2
  exact bodyPost_ret (v := .agg #[.slice a len cap, .int .i64 (2 * (len : Int))]) (by simp [results, Try.results52, go_sem]) rfl ⟨rfl, (Below.refl _ _).alloc (Nat.le_refl _) _⟩

theorem bytes_at {w : World} {a : Option Addr} {len : Nat} {zs : List Int} (cap : Nat) (h : Bs w a len zs) :
    (Extern.Bytes.bytesOf (.slice a len cap)).run Try.prog w = .ok ⟨(Lib.bytesOf zs).toArray⟩ w := by
  obtain ⟨h1, h2, h3, h4⟩ := h
  rcases h4 with h4 | ⟨b, off, rfl, hlt, hc⟩
  · subst h4
    obtain rfl := List.eq_nil_of_length_eq_zero h1
    cases a <;> rfl
  · have hl := Lib.run_loadBytesX (P := Try.prog) w zs ⟨b, off, none⟩ .empty (fun j x hj => by
      have hjl : j < zs.length := (List.getElem?_eq_some_iff.1 hj).1
      have e : (⟨b, off, none⟩ : Addr).add j = ⟨b, off + j, none⟩ := by unfold Addr.add; split <;> simp_all
      rw [e, hc j (by omega), List.getD_eq_getElem?_getD, hj]
      rfl)
    rw [h1] at hl
    have he : (⟨ByteArray.empty.data ++ (Lib.bytesOf zs).toArray⟩ : ByteArray) = ⟨(Lib.bytesOf zs).toArray⟩ := by
      apply ByteArray.ext
      show (#[] : Array UInt8) ++ (Lib.bytesOf zs).toArray = (Lib.bytesOf zs).toArray
      simp
    rw [he] at hl
    exact hl

theorem run_compare {w : World} {a b : Option Addr} {la lb : Nat} {za zb : List Int} (ca cb : Nat) (ha : Bs w a la za) (hb : Bs w b lb zb) :
    (Extern.BytealgCompare.compare #[.slice a la ca, .slice b lb cb]).run Try.prog w = .ok (.int .i64 (cmpI za zb)) w := by
  change Sem.run Try.prog (do pure (goInt (Extern.BytealgCompare.cmp (← Extern.Bytes.bytesOf (.slice a la ca)) (← Extern.Bytes.bytesOf (.slice b lb cb))))) w = _
  simp only [Sem.run_bind, Sem.run_pure, bytes_at ca ha, bytes_at cb hb, Result.andThen]
  rw [Lib.cmp_eq, ← compare_eq za zb ha.2.2.1 hb.2.2.1]
  rfl

set_option maxHeartbeats 400000 in
theorem compare_any (a b : Option Addr) (la ca lb cb : Nat) (za zb : List Int) (w : World) (ha : Bs w a la za) (hb : Bs w b lb zb) :
    Calls Try.prog 51 #[.slice a la ca, .slice b lb cb] w fun e w' => e = .returned (.int .i64 (cmpI za zb)) ∧ w' = w := by
  have hrun := run_compare ca cb ha hb
  go_enter Try.func51, Try.ntmps51
  go_wp2
  rw [run_callFunc_extern Try.func62 (by kernel_rfl) (by kernel_rfl) (by kernel_rfl) (e := Extern.BytealgCompare.compare) (by kernel_rfl), hrun]
  simp only [Result.andThen]
  rw [Oper.upon_value]
  go_wp2
  go_ret
  exact ⟨rfl, rfl⟩
end Go.Proofs.Qxb6003417a
