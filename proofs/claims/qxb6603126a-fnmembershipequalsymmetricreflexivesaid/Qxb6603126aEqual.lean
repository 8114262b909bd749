import Derived.Test.Qxb6603126aMake
import Derived.Laws.StructEq
import Derived.Lib.QuietBelow
import Derived.BigQuiet
import Derived.Deep.RegionWith
namespace Go.Proofs.Qxb6603126a
open Go.RowKit
set_option linter.unusedVariables false

/-- Two members agree. -/
def eqM (a b : ByteArray) (c : Int) (d : Bool) (a' b' : ByteArray) (c' : Int) (d' : Bool) : Bool := (a.toList == a'.toList) && (b.toList == b'.toList) && (c == c') && (d == d')

theorem eqM_symm (a b : ByteArray) (c : Int) (d : Bool) (a' b' : ByteArray) (c' : Int) (d' : Bool) : eqM a b c d a' b' c' d' = eqM a' b' c' d' a b c d := by
  unfold eqM
  rw [BEq.comm (a := d), BEq.comm (a := c), BEq.comm (a := a.toList), BEq.comm (a := b.toList)]
theorem eqM_refl (a b : ByteArray) (c : Int) (d : Bool) : eqM a b c d a b c d = true := by simp [eqM]

/-- What Membership.Equal answers. -/
def eqL (n n' : Nat) (key key' : ByteArray) (N U : Nat → ByteArray) (S : Nat → Int) (L : Nat → Bool) (N' U' : Nat → ByteArray) (S' : Nat → Int) (L' : Nat → Bool) : Bool :=
  (decide (n = n') && decide (key = key')) && (List.range n).all fun i => eqM (N i) (U i) (S i) (L i) (N' i) (U' i) (S' i) (L' i)

theorem eqL_refl (n : Nat) (key : ByteArray) (N U : Nat → ByteArray) (S : Nat → Int) (L : Nat → Bool) : eqL n n key key N U S L N U S L = true := by
  simp [eqL, eqM_refl]
theorem eqL_symm (n n' : Nat) (key key' : ByteArray) (N U : Nat → ByteArray) (S : Nat → Int) (L : Nat → Bool) (N' U' : Nat → ByteArray) (S' : Nat → Int) (L' : Nat → Bool) :
    eqL n n' key key' N U S L N' U' S' L' = eqL n' n key' key N' U' S' L' N U S L := by
  unfold eqL
  by_cases h : n = n'
  · subst h
    rw [show decide (key = key') = decide (key' = key) from by simp [eq_comm]]
    congr 1
    congr 1
    funext i
    exact eqM_symm ..
  · rw [show decide (n = n') = false from by simpa using h, show decide (n' = n) = false from by simpa using fun e => h e.symm]; rfl

theorem neq_members (a b : ByteArray) (c : Int) (d : Bool) (a' b' : ByteArray) (c' : Int) (d' : Bool) (w : World) :
    (binOp .neq 58 (.agg #[.string a, .string b, .int .u64 c, .bool d]) (.agg #[.string a', .string b', .int .u64 c', .bool d'])).run Try.prog w = .ok (.bool (!eqM a b c d a' b' c' d')) w := by
  rw [run_neq_struct, run_equalIn_struct w 9999 58 _ _ (by kernel_rfl) (by kernel_rfl)]
  have hf : (Try.prog.fieldsOf 58).toList.map (fun f => (f.type, f.offset, f.name == "_")) = [(9, 0, false), (9, 1, false), (22, 2, false), (4, 3, false)] := by kernel_rfl
  generalize (Try.prog.fieldsOf 58).toList = fs at hf
  obtain ⟨f0, f1, f2, f3, rfl⟩ : ∃ f0 f1 f2 f3, fs = [f0, f1, f2, f3] := by
    have hl : fs.length = 4 := by simpa using congrArg List.length hf
    clear hf
    match fs, hl with
    | [f0, f1, f2, f3], _ => exact ⟨f0, f1, f2, f3, rfl⟩
  simp only [List.map_cons, List.map_nil, List.cons.injEq, Prod.mk.injEq, and_true, beq_eq_false_iff_ne] at hf
  obtain ⟨⟨t0, o0, m0⟩, ⟨t1, o1, m1⟩, ⟨t2, o2, m2⟩, t3, o3, m3⟩ := hf
  simp only [Op.eqFields, t0, t1, t2, t3, o0, o1, o2, o3, if_pos m0, if_pos m1, if_pos m2, if_pos m3]
  go_simp
  unfold eqM
  by_cases h1 : a.toList = a'.toList <;> by_cases h2 : b.toList = b'.toList <;> by_cases h3 : c = c' <;> by_cases h4 : d = d' <;> simp [h1, h2, h3, h4]

/-- The contract of Membership.Equal, veiled. -/
def Ans (r : Bool) (e : Ending) : Prop := e = .returned (.bool r)

theorem all_snoc {n k : Nat} {p : Nat → Bool} (h : ∀ j, j < k → p j = true) (hk : p k = true) : ∀ j, j < k + 1 → p j = true := fun j hj => by
  by_cases e : j = k
  · subst e; exact hk
  · exact h j (by omega)

theorem all_no {n k : Nat} {p : Nat → Bool} (hk : k < n) (h : p k = false) : (List.range n).all p = false :=
  List.all_eq_false.2 ⟨k, List.mem_range.2 hk, by rw [h]; simp⟩
theorem keys_ne {a b : ByteArray} (h : a ≠ b) : (a.toList == b.toList) = false := by
  rw [beq_eq_false_iff_ne]
  intro h'
  rw [ByteArray.toList_eq, ByteArray.toList_eq] at h'
  obtain ⟨⟨x⟩⟩ := a
  obtain ⟨⟨y⟩⟩ := b
  exact h (by simpa using h')

set_option maxHeartbeats 400000 in
set_option maxRecDepth 100000 in
theorem equal_any (x y : Option Addr) (n c n' c' : Nat) (key key' : ByteArray) (N U : Nat → ByteArray) (S : Nat → Int) (L : Nat → Bool) (N' U' : Nat → ByteArray) (S' : Nat → Int) (L' : Nat → Bool) (w : World)
    (hx : Col w x (n * 4) (memF N U S L)) (hy : Col w y (n' * 4) (memF N' U' S' L')) (hn : n ≤ 65536) :
    Calls Try.prog 24 #[.agg #[.slice x n c, .string key], .agg #[.slice y n' c', .string key']] w fun e w' => Ans (eqL n n' key key' N U S L N' U' S' L') e ∧ Below w.heap.size w w' := by
  have hB0 : ∀ o0 o1, Below w.heap.size w ((w.alloc o0).alloc o1) := fun o0 o1 => ((Below.refl _ _).alloc (Nat.le_refl _) _).alloc (by simp) _
  by_cases h1 : n = n'
  · subst h1
    by_cases h2 : key = key'
    · subst h2
      have HE : Hid (eqL n n key key N U S L N' U' S' L' = (List.range n).all fun i => eqM (N i) (U i) (S i) (L i) (N' i) (U' i) (S' i) (L' i)) := by simp [Hid, eqL]
      generalize hR : eqL n n key key N U S L N' U' S' L' = R at HE
      clear hR
      go_enter Try.func24, Try.ntmps24
      go_wp2
      obtain ⟨W, hW⟩ : ∃ W, W = (w.alloc (.cells #[.slice x n c, .string key] 48)).alloc (.cells #[.slice y n c', .string key] 48) := ⟨_, rfl⟩
      have hB : Below w.heap.size w W := by rw [hW]; exact hB0 _ _
      have c0 : W.cell? ⟨w.heap.size, 0, none⟩ = some (.slice x n c) := by rw [hW]; go_simp
      have c1 : W.cell? ⟨w.heap.size + 1, 0, none⟩ = some (.slice y n c') := by rw [hW]; go_simp
      rw [← hW]
      clear hW hB0
      go_loopw [23] (fun i wr => ∃ k nd : Nat, k ≤ n ∧ i = .int .i64 (k : Int) ∧ (∀ j, j < k → eqM (N j) (U j) (S j) (L j) (N' j) (U' j) (S' j) (L' j) = true) ∧ wr = W.drewN nd) (fun i _ => n - (intOf i).toNat)
      case atStart => exact ⟨0, 0, Nat.zero_le _, rfl, fun j hj => by omega, rfl⟩
      case round =>
        obtain ⟨k, nd, hk, rfl, heq, rfl⟩ := hrel
        have HQ : Hid (∀ j, j < k → eqM (N j) (U j) (S j) (L j) (N' j) (U' j) (S' j) (L' j) = true) := heq
        clear heq
        by_cases hlt : k < n
        · rcases hx with h | ⟨g, o, rfl, hg, hc⟩
          · omega
          rcases hy with h | ⟨g', o', rfl, hg', hc'⟩
          · omega
          have e0 : memF N U S L (k * 4) = .string (N k) := by unfold memF; rw [if_pos (by omega), show k * 4 / 4 = k from by omega]
          have e1 : memF N U S L (k * 4 + 1) = .string (U k) := by unfold memF; rw [if_neg (by omega), if_pos (by omega), show (k * 4 + 1) / 4 = k from by omega]
          have e2 : memF N U S L (k * 4 + 2) = .int .u64 (S k) := by unfold memF; rw [if_neg (by omega), if_neg (by omega), if_pos (by omega), show (k * 4 + 2) / 4 = k from by omega]
          have e3 : memF N U S L (k * 4 + 3) = .bool (L k) := by unfold memF; rw [if_neg (by omega), if_neg (by omega), if_neg (by omega), show (k * 4 + 3) / 4 = k from by omega]
          have e0' : memF N' U' S' L' (k * 4) = .string (N' k) := by unfold memF; rw [if_pos (by omega), show k * 4 / 4 = k from by omega]
          have e1' : memF N' U' S' L' (k * 4 + 1) = .string (U' k) := by unfold memF; rw [if_neg (by omega), if_pos (by omega), show (k * 4 + 1) / 4 = k from by omega]
          have e2' : memF N' U' S' L' (k * 4 + 2) = .int .u64 (S' k) := by unfold memF; rw [if_neg (by omega), if_neg (by omega), if_pos (by omega), show (k * 4 + 2) / 4 = k from by omega]
          have e3' : memF N' U' S' L' (k * 4 + 3) = .bool (L' k) := by unfold memF; rw [if_neg (by omega), if_neg (by omega), if_neg (by omega), show (k * 4 + 3) / 4 = k from by omega]
          have x0 : W.cell? ⟨g, o + k * 4, none⟩ = some (.string (N k)) := by rw [hB.cell (p := ⟨g, o + k * 4, none⟩) hg, hc _ (by omega), e0]
          have x1 : W.cell? ⟨g, o + k * 4 + 1, none⟩ = some (.string (U k)) := by rw [hB.cell (p := ⟨g, o + k * 4 + 1, none⟩) hg, Nat.add_assoc, hc _ (by omega), e1]
          have x2 : W.cell? ⟨g, o + k * 4 + 2, none⟩ = some (.int .u64 (S k)) := by rw [hB.cell (p := ⟨g, o + k * 4 + 2, none⟩) hg, Nat.add_assoc, hc _ (by omega), e2]
          have x3 : W.cell? ⟨g, o + k * 4 + 3, none⟩ = some (.bool (L k)) := by rw [hB.cell (p := ⟨g, o + k * 4 + 3, none⟩) hg, Nat.add_assoc, hc _ (by omega), e3]
          have y0 : W.cell? ⟨g', o' + k * 4, none⟩ = some (.string (N' k)) := by rw [hB.cell (p := ⟨g', o' + k * 4, none⟩) hg', hc' _ (by omega), e0']
          have y1 : W.cell? ⟨g', o' + k * 4 + 1, none⟩ = some (.string (U' k)) := by rw [hB.cell (p := ⟨g', o' + k * 4 + 1, none⟩) hg', Nat.add_assoc, hc' _ (by omega), e1']
          have y2 : W.cell? ⟨g', o' + k * 4 + 2, none⟩ = some (.int .u64 (S' k)) := by rw [hB.cell (p := ⟨g', o' + k * 4 + 2, none⟩) hg', Nat.add_assoc, hc' _ (by omega), e2']
          have y3 : W.cell? ⟨g', o' + k * 4 + 3, none⟩ = some (.bool (L' k)) := by rw [hB.cell (p := ⟨g', o' + k * 4 + 3, none⟩) hg', Nat.add_assoc, hc' _ (by omega), e3']
          clear e0 e1 e2 e3 e0' e1' e2' e3' hc hc'
          have hne := neq_members (N k) (U k) (S k) (L k) (N' k) (U' k) (S' k) (L' k)
          by_cases hm : eqM (N k) (U k) (S k) (L k) (N' k) (U' k) (S' k) (L' k) = true
          · rw [hm] at hne
            have HM : Hid (eqM (N k) (U k) (S k) (L k) (N' k) (U' k) (S' k) (L' k) = true) := hm
            clear hm
            go_wp2
            go_quiet (fail)
            go_wp2
            go_roundw
            case rel => exact ⟨k + 1, nd + nq, by omega, by go_num, all_snoc (n := n) HQ.out HM.out, rfl⟩
            case measure => simp [intOf]; omega
          · have hm' : eqM (N k) (U k) (S k) (L k) (N' k) (U' k) (S' k) (L' k) = false := by simpa using hm
            rw [hm'] at hne
            have HM : Hid (eqM (N k) (U k) (S k) (L k) (N' k) (U' k) (S' k) (L' k) = false) := hm'
            clear hm hm'
            go_wp2
            go_quiet (fail)
            go_wp2
            go_ret
            refine ⟨?_, ⟨hB.os, hB.tape, hB.output, hB.size, hB.block⟩⟩
            show Ending.returned _ = _
            rw [HE.out]
            rw [all_no hlt HM.out]
            rfl
        · obtain rfl : k = n := by omega
          go_wp2
          go_ret
          refine ⟨?_, ⟨hB.os, hB.tape, hB.output, hB.size, hB.block⟩⟩
          show Ending.returned _ = _
          rw [HE.out, List.all_eq_true.2 (fun j hj => HQ.out j (List.mem_range.1 hj))]
          rfl
    · have HR : Hid (eqL n n key key' N U S L N' U' S' L' = false) := by simp [Hid, eqL, h2]
      have h3 := keys_ne h2
      go_enter Try.func24, Try.ntmps24
      go_wp2
      go_ret
      exact ⟨by rw [HR.out]; rfl, hB0 _ _⟩
  · have HR : Hid (eqL n n' key key' N U S L N' U' S' L' = false) := by simp [Hid, eqL, h1]
    have h3 : ((n : Int) == (n' : Int)) = false := beq_eq_false_iff_ne.2 (by omega)
    go_enter Try.func24, Try.ntmps24
    go_wp2
    go_ret
    exact ⟨by rw [HR.out]; rfl, hB0 _ _⟩
end Go.Proofs.Qxb6603126a
