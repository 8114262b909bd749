import Derived.Test.Qxb6602992aPlain
import Derived.Deep.RegionHeld3
import Derived.Deep.RegionLaw
import Derived.Deep.DeepCutAuto
import Derived.Deep.CutBlock
import Derived.Deep.QuietTactic
import Derived.BigQuiet
import Derived.BigRegion
import Derived.RegionTactic
namespace Go.Proofs.Qxb6602992a
open Go.RowKit Go.Lib
set_option linter.unusedVariables false
set_option linter.unusedSimpArgs false

/-- In the middle of put: the map is there; block N is the message's box. -/
def Mid (w : World) (base hb N : Nat) (s v a : Int) (L : List Int) (f : Int → Option (Int × Int)) (c nb : Nat) (w1 : World) : Prop :=
  ∃ sv b, w1.heap[hb]? = some (.cells #[sv, .map (some b)] 62 (0, 0)) ∧ Owns w1 base sv L ∧ base ≤ b ∧ UMap rMsg w1 b nb (mf f) c ∧ w1.heap[N]? = some (.cells (msgCells s v a) 39 (0, 0)) ∧ Keep base hb w w1

theorem hidI {p : Prop} (h : p) : Hid p := h

theorem heap_set_same {w : World} {b o : Nat} {c : Array Value} {t : TypeId} {fr : Nat × Nat} (h : w.heap[b]? = some (.cells c t fr)) (u : Value) : (w.setCell ⟨b, o, none⟩ u).heap[b]? = some (.cells (c.setIfInBounds o u) t fr) := by
  simp [World.setCell, Array.getElem?_modify, h]

theorem Owns.form {w : World} {base : Nat} {v : Value} {L : List Int} (h : Owns w base v L) : ∃ o cap, v = .slice o L.length cap := by
  rcases h.2 with ⟨rfl, h0⟩ | ⟨g, cap, cur, rfl, _⟩
  · rw [h0]; exact ⟨none, 0, rfl⟩
  · exact ⟨_, _, rfl⟩

theorem Owns.keep {w w' : World} {base : Nat} {sv : Value} {L : List Int} (h : Owns w base sv L) (hk : ∀ k, base ≤ k → k < w.heap.size → w'.heap[k]? = w.heap[k]?) : Owns w' base sv L := by
  obtain ⟨h1, h2⟩ := h
  refine ⟨h1, ?_⟩
  rcases h2 with h2 | ⟨g, cap, cur, hv, hb, hh, hr⟩
  · exact .inl h2
  · exact .inr ⟨g, cap, cur, hv, hb, by rw [hk g hb (Array.getElem?_eq_some_iff.1 hh).1]; exact hh, hr⟩

theorem Mid.step {w : World} {base hb N : Nat} {s v a : Int} {L : List Int} {f : Int → Option (Int × Int)} {c nb : Nat} {w1 w2 : World} (h : Mid w base hb N s v a L f c nb w1) (hN : base ≤ N)
    (hk : ∀ k, (base ≤ k ∨ k = hb) → k < w1.heap.size → w2.heap[k]? = w1.heap[k]?) (hK : Keep base hb w1 w2) : Mid w base hb N s v a L f c nb w2 := by
  obtain ⟨sv, b, h1, h2, h3, h4, h5, h6⟩ := h
  refine ⟨sv, b, ?_, h2.keep fun k hk1 hk2 => hk k (.inl hk1) hk2, h3, h4.of_block (hk b (.inl h3) h4.lt), ?_, h6.trans hK⟩
  · rw [hk hb (.inr rfl) (Array.getElem?_eq_some_iff.1 h1).1]; exact h1
  · rw [hk N (.inl hN) (Array.getElem?_eq_some_iff.1 h5).1]; exact h5

theorem mid_nil {w : World} {base hb : Nat} {s v a : Int} {f : Int → Option (Int × Int)} {nb : Nat} {sv : Value} (hb0 : hb < base) (hbase : base ≤ w.heap.size)
    (hh : w.heap[hb]? = some (.cells #[sv, .map none] 62 (0, 0))) (ho : Owns w base sv []) (hf : ∀ x, f x = none) :
    Mid w base hb w.heap.size s v a [] f 0 nb (((w.setCell ⟨hb, 1, none⟩ (.map (some (w.heap.size + 1)))).alloc (.cells (msgCells s v a) 39)).alloc (.map #[] 0)) := by
  have hz : (w.setCell ⟨hb, 1, none⟩ (.map (some (w.heap.size + 1)))).heap.size = w.heap.size := by simp [World.setCell]
  generalize hW : w.setCell ⟨hb, 1, none⟩ (.map (some (w.heap.size + 1))) = W at hz
  have hWb : W.heap[hb]? = some (.cells #[sv, .map (some (w.heap.size + 1))] 62 (0, 0)) := by rw [← hW, heap_set_same hh]; rfl
  have hWo : ∀ k, k ≠ hb → W.heap[k]? = w.heap[k]? := fun k hk => by rw [← hW]; exact Below.heap_setCell _ _ _ _ hk
  have hz2 : (W.alloc (.cells (msgCells s v a) 39)).heap.size = w.heap.size + 1 := by simp [hz]
  have hal : ∀ k, k < w.heap.size → ((W.alloc (.cells (msgCells s v a) 39)).alloc (.map #[] 0)).heap[k]? = W.heap[k]? := fun k hk => by
    rw [Below.heap_alloc _ _ _ (by omega), Below.heap_alloc _ _ _ (by omega)]
  refine ⟨sv, w.heap.size + 1, ?_, ho.keep fun k h1 h2 => ?_, by omega, ?_, ?_, ?_⟩
  · rw [hal hb (by omega)]; exact hWb
  · rw [hal k h2, hWo k (by omega)]
  · have := UMap.made rMsg (W.alloc (.cells (msgCells s v a) 39))
    rw [hz2] at this
    have e : mf f = fun _ => none := by funext x; simp [mf, hf x]
    rw [e]
    obtain ⟨D, hD, h2⟩ := this
    exact ⟨D, hD.mono (Nat.zero_le _), h2⟩
  · rw [Below.heap_alloc _ _ _ (by omega)]
    have := Go.Deep.blk_alloc_new W (.cells (msgCells s v a) 39)
    rw [hz] at this
    exact this
  · rw [← hW]
    exact (((Keep.refl base hb w).setCell ⟨hb, 1, none⟩ (.inl rfl) _).alloc (by simp [World.setCell]; omega) _).alloc (by simp [World.setCell]; omega) _

theorem mid_some {w : World} {base hb b : Nat} {s v a : Int} {L : List Int} {f : Int → Option (Int × Int)} {c nb : Nat} {sv : Value} (hb0 : hb < base) (hbase : base ≤ w.heap.size)
    (hh : w.heap[hb]? = some (.cells #[sv, .map (some b)] 62 (0, 0))) (ho : Owns w base sv L) (hb1 : base ≤ b) (hm : UMap rMsg w b nb (mf f) c) :
    Mid w base hb w.heap.size s v a L f c nb (w.alloc (.cells (msgCells s v a) 39)) := by
  refine ⟨sv, b, ?_, ho.keep fun k h1 h2 => Below.heap_alloc _ _ _ h2, hb1, hm.of_block (Below.heap_alloc _ _ _ hm.lt), Go.Deep.blk_alloc_new _ _, (Keep.refl base hb w).alloc hbase _⟩
  rw [Below.heap_alloc _ _ _ (by omega)]; exact hh

theorem own_ne_box {w : World} {base N : Nat} {sv : Value} {L : List Int} {cs : Array Value} (h : Owns w base sv L) (hN : w.heap[N]? = some (.cells cs 39 (0, 0))) : sv.ownBlock ≠ some N := by
  intro e
  rcases h.2 with ⟨rfl, _⟩ | ⟨g, cap, cur, rfl, hb, hh, _⟩
  · simp [Value.ownBlock] at e
  · simp [Value.ownBlock] at e
    subst e
    rw [hN] at hh
    simp at hh

theorem own_ge {w : World} {base : Nat} {sv : Value} {L : List Int} (h : Owns w base sv L) : ∀ k, sv.ownBlock = some k → base ≤ k := fun k hk => (World.ownsRow.lt h k hk).1

/-- The numbers' slice has been stored anew. -/
theorem mid_store {w wc w' : World} {base hb N b : Nat} {s v a : Int} {L L' : List Int} {f : Int → Option (Int × Int)} {c nb : Nat} {sv v' : Value} (hb0 : hb < base) (hN : base ≤ N) (hbw : base ≤ wc.heap.size)
    (hh : wc.heap[hb]? = some (.cells #[sv, .map (some b)] 62 (0, 0))) (ho : Owns wc base sv L) (hb1 : base ≤ b) (hm : UMap rMsg wc b nb (mf f) c) (hNN : wc.heap[N]? = some (.cells (msgCells s v a) 39 (0, 0))) (hK : Keep base hb w wc)
    (hg : wc.grownBy w' sv.ownBlock) (ho' : Owns w' base v' L') : Mid w base hb N s v a L' f c nb (w'.setCell ⟨hb, 0, none⟩ v') := by
  have hne : some hb ≠ sv.ownBlock := fun e => by have := own_ge ho hb e.symm; omega
  have hh' : w'.heap[hb]? = some (.cells #[sv, .map (some b)] 62 (0, 0)) := by rw [hg.block hb (by omega) hne]; exact hh
  refine ⟨v', b, ?_, ho'.keep fun k h1 h2 => Below.heap_setCell _ _ _ _ (by show k ≠ hb; omega), hb1, ?_, ?_, (hK.grown hg hbw (own_ge ho)).setCell _ (.inl rfl) _⟩
  · rw [heap_set_same hh']; rfl
  · refine (hm.kept hg (fun e => own_ne_map ho hm e.symm)).of_block (Below.heap_setCell _ _ _ _ (by show b ≠ hb; omega))
  · rw [Below.heap_setCell _ _ _ _ (by show N ≠ hb; omega), hg.block N (Array.getElem?_eq_some_iff.1 hNN).1 (fun e => own_ne_box ho hNN e.symm)]
    exact hNN

theorem all_lt {L : List Int} {s : Int} (h : Srt L) (hp : 0 < L.length) (hl : L.getD (L.length - 1) 0 < s) : ∀ y ∈ L, y < s := by
  intro y hy
  obtain ⟨i, hi, rfl⟩ := List.getElem_of_mem hy
  by_cases e : i = L.length - 1
  · subst e; simpa [List.getD, List.getElem?_eq_getElem hi] using hl
  · have := srt_get h i (L.length - 1) (by omega) (by omega)
    simp only [List.getD, List.getElem?_eq_getElem hi, Option.getD_some] at this
    simp only [List.getD] at hl
    omega

theorem exists_lb (x : Int) : ∀ (L : List Int), Srt L → ∃ p, p ≤ L.length ∧ Lows L x p ∧ Highs L x L.length p
  | [], _ => ⟨0, Nat.le_refl _, fun j h => by omega, fun j h1 h2 => by simp at h2⟩
  | y :: l, h => by
    unfold Srt at h
    rw [List.pairwise_cons] at h
    obtain ⟨p, h1, h2, h3⟩ := exists_lb x l h.2
    by_cases hy : y < x
    · refine ⟨p + 1, by simpa using h1, fun j hj => ?_, fun j hj1 hj2 => ?_⟩
      · cases j with
        | zero => simpa using hy
        | succ j => simpa using h2 j (by omega)
      · cases j with
        | zero => omega
        | succ j => simpa using h3 j (by omega) (by simpa using hj2)
    · refine ⟨0, Nat.zero_le _, fun j hj => by omega, fun j _ hj2 => ?_⟩
      cases j with
      | zero => simpa using hy
      | succ j =>
        have hj3 : j < l.length := by simpa using hj2
        have := h.1 l[j] (List.getElem_mem hj3)
        simp [List.getElem?_eq_getElem hj3]
        omega

/-- One step of a region that draws: an append whose run is known. -/
theorem step_append_runI {P : Program} {ops : Array Oper} {o : Oper} {a : Act} {w : World} {K : Act → World → Prop} {Q : Exit → Act → World → Prop} {E : Prop}
    (hg : o.guard = none) (d x : Operand) (dT sT : TypeId) (hop : o.op = Op.call { callee := Callee.builtin Builtin.append, args := #[d, x], argTypes := #[dT, sT] })
    (v u : Value) (hd : a.eval d = v) (hx : a.eval x = u) {v' : Value} {w' : World} (hr : (Builtin.append_ #[dT, sT] o.type #[v, u]).run P w = .ok v' w') (hK : K (a.put o.dst v') w') :
    if Region.wanted o (yielded ops a.tmps) = true then Oper.wp P o a w K Q else E := by
  have hw : Region.wanted o (yielded ops a.tmps) = true := by simp [Region.wanted, hg]
  rw [if_pos hw]
  unfold Oper.wp
  simp [execOp, hop, resolve, invoke, builtin, hd, hx, hr, Result.andThen]
  exact hK

/-- append(h.seqs, m.Seq), in the world in which the region comes to it. -/
theorem append_fact {wc : World} {base : Nat} {sv : Value} {L : List Int} {s : Int} (ho : Owns wc base sv L) (hbw : base ≤ wc.heap.size) (hl : L.length < 1048576) :
    ∃ g' cap' w', (Builtin.append_ #[22, 22] 22 #[sv, .slice (some ⟨wc.heap.size, 0, none⟩) 1 1]).run Try.prog (wc.alloc (.cells #[U s] 23)).drew = .ok (.slice (some ⟨g', 0, none⟩) (L.length + 1) cap') w' ∧
      Owns w' base (.slice (some ⟨g', 0, none⟩) (L.length + 1) cap') (L ++ [s]) ∧ wc.grownBy w' sv.ownBlock := by
  obtain ⟨i0, hi0, hz0, hzs, hzb⟩ := info_parts23
  have ho1 : (wc.alloc (.cells #[U s] 23)).drew.ownsRow base 23 1 sv L.length (L.map U) := World.ownsRow.alloc ho _
  obtain ⟨v', w', hr, how, hg, _, hat⟩ := run_append_own_at (P := Try.prog) (wc.alloc (.cells #[U s] 23)).drew base 22 22 23 i0 (.int .u64 0) 1 8 Try.underlying22 hi0 hz0 hzs hzb rfl (by omega) sv L.length (L.map U) ho1
    ⟨wc.heap.size, 0, none⟩ 1 1 [U s] rfl (cell_one_new wc (U s) 23) (by simp [Value.oneCell']) (by unfold maxLen; omega) (by omega) (by simp; omega)
  have how2 : Owns w' base v' (L ++ [s]) := by
    unfold Owns
    simpa using how
  obtain ⟨g', cap', f', rfl, _⟩ := how2.row (by simp)
  simp only [List.length_append, List.length_cons, List.length_nil] at hr how2
  refine ⟨g', cap', w', hr, how2, ?_⟩
  have k0 : wc.grownBy (wc.alloc (.cells #[U s] 23)).drew sv.ownBlock := ⟨rfl, rfl, rfl, by simp, fun k hk _ => Below.heap_alloc _ _ _ hk⟩
  exact World.grownBy.trans k0 hg

set_option maxHeartbeats 2000000 in
set_option maxRecDepth 100000 in
theorem put_any (base hb : Nat) (L : List Int) (f : Int → Option (Int × Int)) (c nb : Nat) (s v a : Int) (w : World) (h : Held w base hb L f c nb) (hsrt : Srt L) (hmem : ∀ x, U64 x → (x ∈ L ↔ (f x).isSome = true)) (hs : U64 s)
    (hl : L.length < 1048576) (hnb : nb < 1048576) :
    Calls Try.prog 40 #[.pointer (some ⟨hb, 0, none⟩), msgV s v a] w fun e w' => e = .returned (.tuple #[]) ∧ Held w' base hb (putL f s L) (upd f s (v, a)) (putC f s c) (nb + 1) ∧ Keep base hb w w' := by
  obtain ⟨hb0, hbase, sv, mv, hh, ho, hmv⟩ := h
  obtain ⟨r, rfl⟩ : ∃ r, mv = .map r := by rcases hmv with ⟨rfl, _⟩ | ⟨b, rfl, _⟩ <;> exact ⟨_, rfl⟩
  have c0 : w.cell? ⟨hb, 0, none⟩ = some sv := by simp [World.cell?, hh]
  have c1 : w.cell? ⟨hb, 1, none⟩ = some (.map r) := by simp [World.cell?, hh]
  have cf : ∀ o, w.frozen? ⟨hb, o, none⟩ = false := fun o => by simp [World.frozen?, hh]
  have hmm := @run_makeMap Try.prog
  have hnil := fun wx r => run_eql_map_nil (P := Try.prog) wx 60 23 39 r Try.underlying60
  have hbw : hb < w.heap.size := by omega
  have HH : Hid (w.heap[hb]? = some (.cells #[sv, .map r] 62 (0, 0))) := hh
  have HMEM : Hid (∀ x, U64 x → (x ∈ L ↔ (f x).isSome = true)) := hmem
  clear hh hmem
  go_enter Try.func40, Try.ntmps40
  unfold msgV msgCells
  go_upto_if 13 with (fail)
  go_cut [] from 9 (fun w1 => Mid w base hb w.heap.size s v a L f c nb w1)
  case first =>
    rcases hmv with ⟨hr, rfl, rfl, hf⟩ | ⟨b, hr, hb1, hm⟩
    · obtain rfl : r = none := by simpa using hr
      have HF : Hid (∀ x, f x = none) := hf
      clear hf hr
      go_wp2
      go_meet
      case rel => exact mid_nil hb0 hbase HH.out ho HF.out
    · obtain rfl : r = some b := by simpa using hr
      clear hr
      go_wp2
      go_meet
      case rel => exact mid_some hb0 hbase HH.out ho hb1 hm
  case rest =>
    clear c0 c1 cf hmv ho HH
    have HMID := hidI hcut
    obtain ⟨sv, b, hh, ho, hb1, hm, hN, hK⟩ := hcut
    have c0 : wc.cell? ⟨hb, 0, none⟩ = some sv := by simp [World.cell?, hh]
    have c1 : wc.cell? ⟨hb, 1, none⟩ = some (.map (some b)) := by simp [World.cell?, hh]
    have cm : ∀ j, wc.cell? ⟨w.heap.size, j, none⟩ = (msgCells s v a)[j]? := fun j => by simp [World.cell?, hN]
    have cm3 : wc.cell? ⟨w.heap.size, 3, none⟩ = some (.int .u64 s) := by rw [cm]; rfl
    have hNw : w.heap.size < wc.heap.size := (Array.getElem?_eq_some_iff.1 hN).1
    have hl1 := look_msg (w := wc.drew) (hm.of_block rfl) hs
    have hl2 := fun o => look_msg (w := (wc.alloc o).drew) ((hm.of_block (w' := wc.alloc o) (Below.heap_alloc _ _ _ hm.lt)).of_block rfl) hs
    have hbw2 : hb < wc.heap.size := by have := hK.size; omega
    clear hmm hnil hbw
    have HHH : Hid (wc.heap[hb]? = some (.cells #[sv, .map (some b)] 62 (0, 0))) := hh
    have HN : Hid (wc.heap[w.heap.size]? = some (.cells (msgCells s v a) 39 (0, 0))) := hN
    have HCM : Hid (∀ j, wc.cell? ⟨w.heap.size, j, none⟩ = (msgCells s v a)[j]?) := cm
    clear hh hN cm
    go_upto_region 3 with (fail)
    go_cut [5] from 9 (fun s5 w1 => ∃ q, s5 = .bool q ∧ Hid (q = (f s).isSome) ∧ Mid w base hb w.heap.size s v a L f c nb w1)
    case first =>
      cases hfs : (f s).isSome
      · have hat : atV f s = msgV 0 0 0 := by unfold atV; cases e : f s with
          | none => rfl
          | some p => rw [e] at hfs; simp at hfs
        rw [hat, hfs] at hl1
        simp only [hat, hfs] at hl2
        unfold msgV msgCells at hl1 hl2
        go_region
        go_wp2
        go_meet
        case rel => exact ⟨_, rfl, hfs.symm, HMID.out.step hbase (fun k _ hk => Below.heap_alloc _ _ _ hk) (((Keep.refl base hb wc).alloc (by omega) _).drew)⟩
      · obtain ⟨p, hp⟩ := Option.isSome_iff_exists.1 hfs
        have hat : atV f s = msgV s p.1 p.2 := by unfold atV; rw [hp]
        rw [hat, hfs] at hl1
        simp only [hat, hfs] at hl2
        unfold msgV msgCells at hl1 hl2
        clear hp hat
        go_region
        go_wp2
        go_meet
        case rel => exact ⟨_, rfl, hfs.symm, HMID.out.step hbase (fun k _ hk => Below.heap_alloc _ _ _ hk) (((Keep.refl base hb wc).alloc (by omega) _).drew)⟩
    case rest =>
      clear HMID c0 c1 cm3 hNw hl1 hl2 hbw2 HHH HN HCM ho hb1 hm hK
      obtain ⟨q, rfl, HQ, hmid⟩ := hcut
      go_upto_if 29 with (fail)
      go_cut [] from 9 (fun w1 => Mid w base hb w.heap.size s v a (if q then L else ins s L) f c nb w1)
      case first =>
        cases q
        · have HMID := hidI hmid
          obtain ⟨sv, b, hh, ho, hb1, hm, hN, hK⟩ := hmid
          obtain ⟨o, cap, rfl⟩ := ho.form
          have c0 : wc.cell? ⟨hb, 0, none⟩ = some (.slice o L.length cap) := by simp [World.cell?, hh]
          have cm3 : wc.cell? ⟨w.heap.size, 3, none⟩ = some (.int .u64 s) := by simp [World.cell?, hN]; rfl
          have cf : ∀ o, wc.frozen? ⟨hb, o, none⟩ = false := fun o => by simp [World.frozen?, hh]
          have hNw : w.heap.size < wc.heap.size := (Array.getElem?_eq_some_iff.1 hN).1
          have hbw2 : hb < wc.heap.size := by have := hK.size; omega
          have HHH : Hid (wc.heap[hb]? = some (.cells #[.slice o L.length cap, .map (some b)] 62 (0, 0))) := hh
          have HN : Hid (wc.heap[w.heap.size]? = some (.cells (msgCells s v a) 39 (0, 0))) := hN
          clear hh hN
          by_cases hL : L.length = 0
          · have G1 : ((L.length : Int) == 0) = true := beq_iff_eq.2 (by omega)
            have HL : Hid (L.length = 0) := hL
            clear hL
            go_wp2
            go_quiet (fail)
            go_wp2
            obtain ⟨wd, hwd⟩ : ∃ wd, wd = wc.drewN nq := ⟨_, rfl⟩
            have hmd : Mid w base hb w.heap.size s v a L f c nb wd := by rw [hwd]; exact HMID.out.step hbase (fun _ _ _ => rfl) ⟨rfl, rfl, rfl, Nat.le_refl _, fun _ _ _ => rfl⟩
            rw [← hwd]
            clear hwd c0 cm3 cf hNw hbw2 HHH HN HMID ho hb1 hm hK G1
            obtain ⟨sv, b, hh, ho, hb1, hm, hN, hK⟩ := hmd
            obtain ⟨o, cap, rfl⟩ := ho.form
            have c0 : wd.cell? ⟨hb, 0, none⟩ = some (.slice o L.length cap) := by simp [World.cell?, hh]
            have cm3 : wd.cell? ⟨w.heap.size, 3, none⟩ = some (.int .u64 s) := by simp [World.cell?, hN]; rfl
            have cf : ∀ o, wd.frozen? ⟨hb, o, none⟩ = false := fun o => by simp [World.frozen?, hh]
            have hNw : w.heap.size < wd.heap.size := (Array.getElem?_eq_some_iff.1 hN).1
            have hbw2 : hb < wd.heap.size := by have := hK.size; omega
            have hbc : base ≤ wd.heap.size := by have := hK.size; omega
            obtain ⟨g', cap', w', hap, how, hgr⟩ := append_fact (s := s) ho hbc hl
            have hne : some hb ≠ (Value.slice o L.length cap).ownBlock := fun e => by have := own_ge ho hb e.symm; omega
            have d0 : w'.cell? ⟨hb, 0, none⟩ = some (.slice o L.length cap) := hgr.cell c0 hne
            have d1 : ∀ o, w'.frozen? ⟨hb, o, none⟩ = false := fun o => by rw [World.frozen?_of_block (w := wd) (hgr.block hb hbw2 hne)]; exact cf o
            have HFIN := hidI (mid_store (s := s) (v := v) (a := a) hb0 hbase hbc hh ho hb1 hm hN hK hgr how)
            have hneN : some w.heap.size ≠ (Value.slice o L.length cap).ownBlock := fun e => own_ne_box ho hN e.symm
            have d2 : w'.cell? ⟨w.heap.size, 3, none⟩ = some (.int .u64 s) := hgr.cell cm3 hneN
            clear hgr how hne hneN hh hN ho hm hK
            go_region_law (refine step_append_runI rfl _ _ 22 22 rfl (.slice o L.length cap) (.slice (some ⟨wd.heap.size, 0, none⟩) 1 1) (by simp [Act.eval, Act.put]) (by simp [Act.eval, Act.put]) hap ?_)
            all_goals
              go_wp2
              go_meet
              case rel =>
                have e : ins s L = L ++ [s] := ins_end L s (by intro y hy; have h0 := HL.out; rw [List.length_eq_zero_iff.1 h0] at hy; cases hy)
                rw [show (if false = true then L else ins s L) = L ++ [s] from by simp [e]]
                exact HFIN.out
          · have G1 : ((L.length : Int) == 0) = false := beq_eq_false_iff_ne.2 (by omega)
            obtain ⟨g, cap', fr, hsv, hgb, hlc, hcm, hrow, hfr⟩ := ho.row (by omega)
            simp only [Value.slice.injEq, true_and] at hsv
            obtain ⟨rfl, rfl⟩ := hsv
            have gl : ((L.length : Int) - 1).toNat = L.length - 1 := by omega
            have clast : wc.cell? ⟨g, L.length - 1, none⟩ = some (U (L.getD (L.length - 1) 0)) := by rw [hrow.cell (by omega), hfr _ (by omega)]
            generalize hy : L.getD (L.length - 1) 0 = y at clast
            have HY : Hid (L.getD (L.length - 1) 0 = y) := hy
            clear hy
            have gp : 0 < L.length := by omega
            by_cases hys : y < s
            · go_wp2
              go_quiet (fail)
              go_wp2
              obtain ⟨wd, hwd⟩ : ∃ wd, wd = wc.drewN nq := ⟨_, rfl⟩
              have hmd : Mid w base hb w.heap.size s v a L f c nb wd := by rw [hwd]; exact HMID.out.step hbase (fun _ _ _ => rfl) ⟨rfl, rfl, rfl, Nat.le_refl _, fun _ _ _ => rfl⟩
              rw [← hwd]
              clear hwd c0 cm3 cf hNw hbw2 HHH HN HMID ho hb1 hm hK G1 hgb hlc hcm hrow hfr clast gl
              obtain ⟨sv, b, hh, ho, hb1, hm, hN, hK⟩ := hmd
              obtain ⟨o, cap, rfl⟩ := ho.form
              have c0 : wd.cell? ⟨hb, 0, none⟩ = some (.slice o L.length cap) := by simp [World.cell?, hh]
              have cm3 : wd.cell? ⟨w.heap.size, 3, none⟩ = some (.int .u64 s) := by simp [World.cell?, hN]; rfl
              have cf : ∀ o, wd.frozen? ⟨hb, o, none⟩ = false := fun o => by simp [World.frozen?, hh]
              have hNw : w.heap.size < wd.heap.size := (Array.getElem?_eq_some_iff.1 hN).1
              have hbw2 : hb < wd.heap.size := by have := hK.size; omega
              have hbc : base ≤ wd.heap.size := by have := hK.size; omega
              obtain ⟨g', cap', w', hap, how, hgr⟩ := append_fact (s := s) ho hbc hl
              have hne : some hb ≠ (Value.slice o L.length cap).ownBlock := fun e => by have := own_ge ho hb e.symm; omega
              have d0 : w'.cell? ⟨hb, 0, none⟩ = some (.slice o L.length cap) := hgr.cell c0 hne
              have d1 : ∀ o, w'.frozen? ⟨hb, o, none⟩ = false := fun o => by rw [World.frozen?_of_block (w := wd) (hgr.block hb hbw2 hne)]; exact cf o
              have HFIN := hidI (mid_store (s := s) (v := v) (a := a) hb0 hbase hbc hh ho hb1 hm hN hK hgr how)
              have hneN : some w.heap.size ≠ (Value.slice o L.length cap).ownBlock := fun e => own_ne_box ho hN e.symm
              have d2 : w'.cell? ⟨w.heap.size, 3, none⟩ = some (.int .u64 s) := hgr.cell cm3 hneN
              clear hgr how hne hneN hh hN ho hm hK
              go_region_law (refine step_append_runI rfl _ _ 22 22 rfl (.slice o L.length cap) (.slice (some ⟨wd.heap.size, 0, none⟩) 1 1) (by simp [Act.eval, Act.put]) (by simp [Act.eval, Act.put]) hap ?_)
              all_goals
                go_wp2
                go_meet
                case rel =>
                  have e : ins s L = L ++ [s] := ins_end L s (by exact all_lt hsrt gp (by rw [HY.out]; exact hys))
                  rw [show (if false = true then L else ins s L) = L ++ [s] from by simp [e]]
                  exact HFIN.out
            · have hys' : s ≤ y := by omega
              obtain ⟨pp, hpl, hlo, hhi⟩ := exists_lb s L hsrt
              have hpn : pp < L.length := by
                by_cases e : pp = L.length
                · have := hlo (L.length - 1) (by omega)
                  rw [HY.out] at this; omega
                · omega
              have hnot : ∀ i, i < L.length → L.getD i 0 ≠ s := by
                intro i hi e
                have hmem : s ∈ L := by
                  rw [← e]
                  simp only [List.getD, List.getElem?_eq_getElem hi, Option.getD_some]
                  exact List.getElem_mem hi
                have := (HMEM.out s hs).1 hmem
                rw [← HQ.out] at this; cases this
              have hcell : ∀ i, i < L.length → wc.cell? ⟨g, 0 + i, none⟩ = some (.int .u64 (L.getD i 0)) := fun i hi => by rw [Nat.zero_add, hrow.cell (by omega), hfr i hi]
              have SC := hidI (fun nd => search_any g 0 L.length cap s L (wc.drewN nd) (by omega) hcell (srt_get hsrt) hnot pp hpl hlo hhi)
              have HINS := hidI (ins_at L s pp hpl hlo hhi)
              clear hlo hhi hnot hcell hrow hfr
              go_wp2
              go_quiet (fail)
              go_wp2
              obtain ⟨wd, hwd⟩ : ∃ wd, wd = wc.drewN nq := ⟨_, rfl⟩
              have hmd : Mid w base hb w.heap.size s v a L f c nb wd := by rw [hwd]; exact HMID.out.step hbase (fun _ _ _ => rfl) ⟨rfl, rfl, rfl, Nat.le_refl _, fun _ _ _ => rfl⟩
              have e0 : wd.cell? ⟨hb, 0, none⟩ = some (.slice (some ⟨g, 0, none⟩) L.length cap) := by rw [hwd]; exact c0
              have e3 : wd.cell? ⟨w.heap.size, 3, none⟩ = some (.int .u64 s) := by rw [hwd]; exact cm3
              have SD := hidI (fun nd => by have := SC.out (nq + nd); rw [← World.drewN_drewN, ← hwd] at this; exact this)
              rw [← hwd]
              clear hwd c0 cm3 cf hNw hbw2 HHH HN HMID ho hb1 hm hK G1 clast gl SC
              go_quiet ((go_at_call 42; exact Calls.quiet_of_same (SD.out _)))
              go_wp2
              obtain ⟨we, hwe⟩ : ∃ we, we = wd.drewN nq := ⟨_, rfl⟩
              have hme : Mid w base hb w.heap.size s v a L f c nb we := by rw [hwe]; exact hmd.step hbase (fun _ _ _ => rfl) ⟨rfl, rfl, rfl, Nat.le_refl _, fun _ _ _ => rfl⟩
              rw [← hwe]
              clear hwe e0 e3 SD hmd
              obtain ⟨sv, b, hh, ho, hb1, hm, hN, hK⟩ := hme
              obtain ⟨o, cap, rfl⟩ := ho.form
              have c0 : we.cell? ⟨hb, 0, none⟩ = some (.slice o L.length cap) := by simp [World.cell?, hh]
              have cm3 : we.cell? ⟨w.heap.size, 3, none⟩ = some (.int .u64 s) := by simp [World.cell?, hN]; rfl
              have cf : ∀ o, we.frozen? ⟨hb, o, none⟩ = false := fun o => by simp [World.frozen?, hh]
              have hNw : w.heap.size < we.heap.size := (Array.getElem?_eq_some_iff.1 hN).1
              have hbw2 : hb < we.heap.size := by have := hK.size; omega
              have hbc : base ≤ we.heap.size := by have := hK.size; omega
              have hown : (Value.slice o L.length cap).ownBlock ≠ some we.heap.size := fun e => by have := (World.ownsRow.lt ho _ e).2; omega
              have IC := hidI (insert_any base pp (.slice o L.length cap) L s we.heap.size (we.alloc (.cells #[U s] 23)).drew (ho.keep fun k _ h2 => Below.heap_alloc _ _ _ h2) hpn (Go.Deep.blk_alloc_new we _) hown hl (by simp; omega))
              have hne : some hb ≠ (Value.slice o L.length cap).ownBlock := fun e => by have := own_ge ho hb e.symm; omega
              have k0 : we.grownBy (we.alloc (.cells #[U s] 23)).drew (Value.slice o L.length cap).ownBlock := ⟨rfl, rfl, rfl, by simp, fun k hk _ => Below.heap_alloc _ _ _ hk⟩
              have HST := hidI (fun w2 v2 hg2 ho2 => mid_store (w' := w2) (v' := v2) (L' := L.take pp ++ s :: L.drop pp) (s := s) (v := v) (a := a) hb0 hbase hbc hh ho hb1 hm hN hK hg2 ho2)
              clear hh hN ho hm hK hown
              go_region_with (go_at_call 43; refine IC.out.mono ?_; rintro e w2 ⟨v2, rfl, ho2, hg2, hat2⟩; obtain ⟨o2, cap2, rfl⟩ := ho2.form; have d0 := (World.grownBy.trans k0 hg2).cell c0 hne; have d1 : ∀ o, w2.frozen? ⟨hb, o, none⟩ = false := (fun o => by rw [World.frozen?_of_block (w := we) ((World.grownBy.trans k0 hg2).block hb hbw2 hne)]; exact cf o); have HZ := hidI (HST.out w2 _ (World.grownBy.trans k0 hg2) ho2); clear hg2 ho2 hat2)
              all_goals
                go_wp2
                go_meet
                case rel =>
                  rw [show (if false = true then L else ins s L) = L.take pp ++ s :: L.drop pp from by simp [HINS.out]]
                  have hz := HZ.out
                  have hll : (L.take pp ++ s :: L.drop pp).length = pp + (L.length - pp + 1) := by simp; omega
                  rw [hll] at hz
                  exact hz
        · go_wp2
          go_meet
          case rel => exact hmid
      case rest =>
        clear hmid
        obtain ⟨sv, b, hh, ho, hb1, hm, hN, hK⟩ := hcut
        have c1 : wc.cell? ⟨hb, 1, none⟩ = some (.map (some b)) := by simp [World.cell?, hh]
        have m0 : wc.cell? ⟨w.heap.size, 0, none⟩ = some (.string ⟨#[]⟩) := by simp [World.cell?, hN]; rfl
        have m1 : wc.cell? ⟨w.heap.size, 1, none⟩ = some (.string ⟨#[]⟩) := by simp [World.cell?, hN]; rfl
        have m2 : wc.cell? ⟨w.heap.size, 2, none⟩ = some (.int .u64 0) := by simp [World.cell?, hN]; rfl
        have m3 : wc.cell? ⟨w.heap.size, 3, none⟩ = some (.int .u64 s) := by simp [World.cell?, hN]; rfl
        have m4 : wc.cell? ⟨w.heap.size, 4, none⟩ = some (.int .u64 v) := by simp [World.cell?, hN]; rfl
        have m5 : wc.cell? ⟨w.heap.size, 5, none⟩ = some (.int .u64 a) := by simp [World.cell?, hN]; rfl
        have m6 : wc.cell? ⟨w.heap.size, 6, none⟩ = some (.slice none 0 0) := by simp [World.cell?, hN]; rfl
        have m7 : wc.cell? ⟨w.heap.size, 7, none⟩ = some (.slice none 0 0) := by simp [World.cell?, hN]; rfl
        have m8 : wc.cell? ⟨w.heap.size, 8, none⟩ = some (.int .u64 0) := by simp [World.cell?, hN]; rfl
        have m9 : wc.cell? ⟨w.heap.size, 9, none⟩ = some (.slice none 0 0) := by simp [World.cell?, hN]; rfl
        have hbc : base ≤ wc.heap.size := by have := hK.size; omega
        obtain ⟨w3, hup, hm3, hg3⟩ := UMap.update (w := wc.drew) (hm.of_block rfl) Try.underlying60 (by unfold maxLen; omega) hs (rMsg_mk s v a)
        have hg4 : wc.grownBy w3 (some b) := ⟨hg3.os, hg3.tape, hg3.output, hg3.size, hg3.block⟩
        have HFIN : Hid (Held w3 base hb (putL f s L) (upd f s (v, a)) (putC f s c) (nb + 1) ∧ Keep base hb w w3) := by
          have hqL : (if q then L else ins s L) = putL f s L := by rw [HQ.out]; rfl
          rw [hqL] at ho
          refine ⟨⟨hb0, Nat.le_trans hbc hg4.size, sv, _, ?_, World.ownsRow.kept ho hg4 (.inr (fun e => own_ne_map ho hm e)), .inr ⟨b, rfl, hb1, ?_⟩⟩, hK.grown hg4 hbc (fun k e => by simp at e; omega)⟩
          · rw [hg4.block hb (by omega) (by simp; omega)]; exact hh
          · rw [mf_upd, mf_isSome] at hm3; exact hm3
        unfold msgV msgCells at hup
        clear hh ho hm hN hK hm3 hg3 hg4
        go_wp2
        go_region
        go_wp2
        go_end0
        exact ⟨rfl, HFIN.out⟩
end Go.Proofs.Qxb6602992a
