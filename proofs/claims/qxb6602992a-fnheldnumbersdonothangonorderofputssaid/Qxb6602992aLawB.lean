import Derived.Test.Qxb6602992aLawA
import Derived.Test.Qxb6602992aPut
import Derived.Deep.RegionHeld3
import Derived.Deep.DeepCutAuto
import Derived.Deep.CutBlock
import Derived.LoopTactic
import Derived.OpenShut
namespace Go.Proofs.Qxb6602992a.fnHeldNumbersDoNotHangOnOrderOfPuts
open Go.RowKit
set_option linter.unusedVariables false

theorem hidJ {p : Prop} (h : p) : Hid p := h

theorem held_grow {w w' : World} {base hb : Nat} {L : List Int} {f : Int → Option (Int × Int)} {c nb : Nat} (h : Held w base hb L f c nb) (hsz : w.heap.size ≤ w'.heap.size)
    (hk : ∀ k, k < w.heap.size → w'.heap[k]? = w.heap[k]?) : Held w' base hb L f c nb := by
  obtain ⟨h1, h2, sv, mv, hh, ho, hm⟩ := h
  refine ⟨h1, Nat.le_trans h2 hsz, sv, mv, ?_, ?_, ?_⟩
  · rw [hk hb (by omega)]; exact hh
  · obtain ⟨o1, o2⟩ := ho
    refine ⟨o1, ?_⟩
    rcases o2 with o2 | ⟨g, cap, cur, hv, hb', hg, hr⟩
    · exact .inl o2
    · exact .inr ⟨g, cap, cur, hv, hb', by rw [hk g (Array.getElem?_eq_some_iff.1 hg).1]; exact hg, hr⟩
  · rcases hm with hm | ⟨b, rfl, hb1, hu⟩
    · exact .inl hm
    · exact .inr ⟨b, rfl, hb1, hu.of_block (hk b hu.lt)⟩

set_option maxHeartbeats 400000 in
theorem shim_put (base hb : Nat) (L : List Int) (f : Int → Option (Int × Int)) (c nb : Nat) (s v a : Int) (w : World) (h : Held w base hb L f c nb) (hsrt : Srt L) (hmem : ∀ x, U64 x → (x ∈ L ↔ (f x).isSome = true)) (hs : U64 s)
    (hl : L.length < 1048576) (hnb : nb < 1048576) :
    Calls Try.prog 29 #[.pointer (some ⟨hb, 0, none⟩), msgV s v a] w fun e w' => e = .returned (.tuple #[]) ∧ Held w' base hb (putL f s L) (upd f s (v, a)) (putC f s c) (nb + 1) ∧ Keep base hb w w' := by
  have hK : ∀ o, Keep base hb w (w.alloc o) := fun o => (Keep.refl base hb w).alloc h.2.1 o
  have hH : ∀ o, Held (w.alloc o) base hb L f c nb := fun o => held_grow h (by simp) (fun k hk => Below.heap_alloc _ _ _ hk)
  have PC := hidJ (fun o => put_any base hb L f c nb s v a (w.alloc o) (hH o) hsrt hmem hs hl hnb)
  clear hH
  unfold msgV msgCells at *
  go_enter Try.func29, Try.ntmps29
  go_wp2_with fail
  refine (PC.out _).mono ?_
  rintro e w' ⟨rfl, h1, h2⟩
  go_wp2
  go_end0
  exact ⟨rfl, h1, (hK _).trans h2⟩

/-- WHAT THE WALK IS TOLD OF A SLICE OF INTEGERS THAT CAME IN: it is nil; or it leads to a row of 'cap' cells, the numbers 'zs' (the first 'len' are its elements, the rest its spare room), each fitting its kind. -/
def IsRow (k : IntKind) (w : World) (a : Option Addr) (len cap : Nat) (zs : List Int) : Prop :=
  (a = none ∧ len = 0 ∧ cap = 0 ∧ zs = []) ∨
  ∃ x, a = some x ∧ len ≤ cap ∧ cap ≤ maxLen ∧ zs.length = cap ∧ (∀ i, i < zs.length → w.cell? (x.add i) = some (.int k (zs.getD i 0))) ∧ ∀ n ∈ zs, (Lit.int k n).wf = true

theorem IsRow.le {k : IntKind} {w : World} {a : Option Addr} {len cap : Nat} {zs : List Int} (h : IsRow k w a len cap zs) : len ≤ maxLen := by
  rcases h with ⟨_, rfl, _⟩ | ⟨x, _, h1, h2, _⟩
  · omega
  · omega

theorem bounds_u64' {n : Int} (h : (Lit.int .u64 n).wf = true) : U64 n := by
  simp [Lit.wf, IntKind.min, IntKind.max, IntKind.signed, IntKind.bits] at h
  unfold U64
  omega

theorem rs_of_row {w : World} {a : Option Addr} {len cap : Nat} {zs : List Int} (h : IsRow .u64 w a len cap zs) (hl : len ≤ 4096) : Rs w a len (zs.take len) := by
  rcases h with ⟨rfl, rfl, rfl, rfl⟩ | ⟨x, rfl, h1, h2, h3, hc, hw⟩
  · exact ⟨rfl, by omega, by simp, .inl rfl⟩
  · refine ⟨by simp; omega, hl, fun n hn => bounds_u64' (hw n (List.mem_of_mem_take hn)), ?_⟩
    by_cases h0 : len = 0
    · exact .inl h0
    · right
      obtain ⟨b, off, rfl, hcc⟩ := ints_at hc (by omega)
      refine ⟨b, off, rfl, ?_, fun i hi => ?_⟩
      · exact block_lt_of_cell (hcc 0 (by omega))
      · rw [hcc i (by omega)]
        simp [List.getD, hi]

theorem clone_any (a : Option Addr) (len cap : Nat) (zs : List Int) (w : World) (h : IsRow .u64 w a len cap zs) (hl : len ≤ 4096) :
    Calls Try.prog 14 #[.slice a len cap] w fun e w' => ∃ a' c, e = .returned (.slice a' len c) ∧ Below w.heap.size w w' ∧ Rs w' a' len (zs.take len) := by
  have hb := rs_of_row h hl
  rcases h with ⟨rfl, rfl, rfl, rfl⟩ | ⟨x, rfl, _⟩
  · exact clone_nil w
  · exact clone_some x len cap _ w hb hl

theorem IsRow.below {k : IntKind} {w w' : World} {a : Option Addr} {len cap : Nat} {zs : List Int} (h : IsRow k w a len cap zs) (hb : Below w.heap.size w w') : IsRow k w' a len cap zs := by
  rcases h with h | ⟨x, rfl, h1, h2, h3, hc, hw⟩
  · exact .inl h
  · refine .inr ⟨x, rfl, h1, h2, h3, fun i hi => ?_, hw⟩
    have := hc i hi
    rw [hb.cell (block_lt_of_cell this)]; exact this

/-- t messages have been put, message u of index 'g u'. -/
def Sp (zs vs : List Int) (g : Nat → Nat) (base hb : Nat) (W : World) (t : Nat) (wr : World) : Prop :=
  Held wr base hb (stL zs vs g t) (stF zs vs g t) (stC zs vs g t) t ∧ Keep base hb W wr

theorem Sp.put {zs vs : List Int} {g : Nat → Nat} {base hb : Nat} {W wr : World} {t : Nat} (h : Sp zs vs g base hb W t wr) (ht : t < 4096) (hu : U64 (zs.getD (g t) 0)) (wx : World) (hx : wx.heap = wr.heap) (hx2 : wx.os = wr.os ∧ wx.tape = wr.tape ∧ wx.output = wr.output) :
    Calls Try.prog 29 #[.pointer (some ⟨hb, 0, none⟩), msgV (zs.getD (g t) 0) (vs.getD (g t) 0) (g t : Int)] wx fun e w' => e = .returned (.tuple #[]) ∧ Sp zs vs g base hb W (t + 1) w' := by
  obtain ⟨h1, h2⟩ := h
  have k1 : Keep base hb wr wx := ⟨hx2.1, hx2.2.1, hx2.2.2, by rw [hx]; exact Nat.le_refl _, fun k _ _ => by rw [hx]⟩
  have h1' : Held wx base hb (stL zs vs g t) (stF zs vs g t) (stC zs vs g t) t := by
    obtain ⟨p1, p2, sv, mv, hh, ho, hm⟩ := h1
    refine ⟨p1, by rw [hx]; exact p2, sv, mv, by rw [hx]; exact hh, ?_, ?_⟩
    · obtain ⟨o1, o2⟩ := ho
      refine ⟨o1, ?_⟩
      rcases o2 with o2 | ⟨g, cap, cur, hv, hb', hg, hr⟩
      · exact .inl o2
      · exact .inr ⟨g, cap, cur, hv, hb', by rw [hx]; exact hg, hr⟩
    · rcases hm with hm | ⟨b, rfl, hb1, hum⟩
      · exact .inl hm
      · exact .inr ⟨b, rfl, hb1, hum.of_block (by rw [hx])⟩
  have ha := stL_all zs vs g t
  refine (shim_put base hb _ _ _ t _ _ _ wx h1' ha.1 (fun x _ => ha.2.1 x) hu (by omega) (by omega)).mono ?_
  rintro e w' ⟨rfl, hH, hK⟩
  exact ⟨rfl, hH, h2.trans (k1.trans hK)⟩

theorem getD_u64 {zs : List Int} (h : ∀ n ∈ zs, U64 n) (i : Nat) : U64 (zs.getD i 0) := by
  by_cases hl : i < zs.length
  · have e : zs.getD i 0 = zs[i] := by simp [List.getD, List.getElem?_eq_getElem hl]
    rw [e]; exact h _ (List.getElem_mem hl)
  · have e : zs.getD i 0 = 0 := by simp [List.getD, List.getElem?_eq_none (Nat.le_of_not_lt hl)]
    rw [e]; unfold U64; omega

theorem Sp.below {zs vs : List Int} {g : Nat → Nat} {base hb : Nat} {wb W wr : World} {t : Nat} (h : Sp zs vs g base hb W t wr) (hB : Below wb.heap.size wb W) (h1 : wb.heap.size ≤ hb) (h2 : hb < base) : Below wb.heap.size wb wr :=
  hB.trans ⟨h.2.os, h.2.tape, h.2.output, h.2.size, fun k hk => h.2.block k (by omega) (by omega)⟩

theorem wrapu {j : Nat} (h : j < 4096) : IntKind.u64.wrap (j : Int) = (j : Int) := by
  simp [IntKind.wrap, IntKind.signed, IntKind.bits]
  omega

theorem below_dn (B : Nat) (w : World) (nd : Nat) : Below B w (w.drewN nd) := ⟨rfl, rfl, rfl, Nat.le_refl _, fun _ _ => rfl⟩

theorem rs_cell {w : World} {a : Option Addr} {len : Nat} {zs : List Int} (h : Rs w a len zs) {j : Nat} (hj : j < len) : ∃ b off, a = some ⟨b, off, none⟩ ∧ b < w.heap.size ∧ w.cell? ⟨b, off + j, none⟩ = some (.int .u64 (zs.getD j 0)) := by
  obtain ⟨h1, h2, h3, h4⟩ := h
  rcases h4 with h4 | ⟨b, off, rfl, hlt, hc⟩
  · omega
  · exact ⟨b, off, rfl, hlt, hc j hj⟩

/-- Loop 3: the first j numbers have been counted. -/
def T3 (zs : List Int) (w4 : World) (j : Nat) (wr : World) : Prop :=
  Below w4.heap.size w4 wr ∧ (∃ ct, UMap (plainElem Try.prog 3) wr w4.heap.size j (tF zs j) ct) ∧ ∃ cf, UMap (plainElem Try.prog 3) wr (w4.heap.size + 1) j (fF zs j) cf

theorem T3_start (zs : List Int) (w4 : World) (nd : Nat) : T3 zs w4 0 (((w4.drewN nd).alloc (.map #[] 0)).alloc (.map #[] 0)) := by
  have e1 : tF zs 0 = fun _ => none := by funext x; simp [tF, cnt]
  have e2 : fF zs 0 = fun _ => none := by funext x; simp [fF, fst]
  refine ⟨?_, ⟨0, ?_⟩, ⟨0, ?_⟩⟩
  · have h0 : Below w4.heap.size w4 (w4.drewN nd) := ⟨rfl, rfl, rfl, Nat.le_refl _, fun _ _ => rfl⟩
    exact (h0.alloc (Nat.le_refl _) _).alloc (by simp) _
  · rw [e1]
    have := UMap.made (plainElem Try.prog 3) (w4.drewN nd)
    exact this.of_block (Below.heap_alloc _ _ _ (by simp))
  · rw [e2]
    have := UMap.made (plainElem Try.prog 3) ((w4.drewN nd).alloc (.map #[] 0))
    simpa using this

/-- One more number counted: behind the (possible) store into 'first' the world is wq. -/
theorem T3.step {zs : List Int} {w4 wr wq : World} {j : Nat} (h : T3 zs w4 j wr) (hj : j < 4096) (hu : U64 (zs.getD j 0)) (hB : Below w4.heap.size w4 wq) (ht : wq.heap[w4.heap.size]? = wr.heap[w4.heap.size]?)
    (hf : ∃ cf, UMap (plainElem Try.prog 3) wq (w4.heap.size + 1) (j + 1) (fF zs (j + 1)) cf) :
    ∃ w2, (Instr.mapUpdate 46 (.map (some w4.heap.size)) (.int .u64 (zs.getD j 0)) (.int .i64 ((cnt zs j (zs.getD j 0) : Int) + 1))).run Try.prog wq.drew = .ok () w2 ∧ T3 zs w4 (j + 1) w2 := by
  obtain ⟨h1, ⟨ct, h2⟩, h3⟩ := h
  have hq : UMap (plainElem Try.prog 3) wq.drew w4.heap.size j (tF zs j) ct := (h2.of_block ht).of_block rfl
  have hc := cnt_le zs j (zs.getD j 0)
  obtain ⟨w2, hr, hm, hg⟩ := plain_put hq (by omega) hu (k := (cnt zs j (zs.getD j 0) : Int) + 1) (by omega) (by omega)
  refine ⟨w2, hr, ?_, ⟨_, by rw [tF_upd] at hm; exact hm⟩, ?_⟩
  · refine hB.trans ⟨hg.os, hg.tape, hg.output, hg.size, fun k hk => hg.block k (Nat.lt_of_lt_of_le hk hB.size) (by simp; omega)⟩
  · obtain ⟨cf, hf⟩ := hf
    exact ⟨cf, UMap.kept (w := wq.drew) (hf.of_block rfl) hg (by simp)⟩

theorem T3.first {zs : List Int} {w4 wr : World} {j : Nat} (h : T3 zs w4 j wr) (hj : j < 4096) (hu : U64 (zs.getD j 0)) (h0 : cnt zs j (zs.getD j 0) = 0) :
    ∃ w1, (Instr.mapUpdate 46 (.map (some (w4.heap.size + 1))) (.int .u64 (zs.getD j 0)) (.int .i64 (j : Int))).run Try.prog wr = .ok () w1 ∧ Below w4.heap.size w4 w1 ∧ w1.heap[w4.heap.size]? = wr.heap[w4.heap.size]? ∧
      (∃ cf, UMap (plainElem Try.prog 3) w1 (w4.heap.size + 1) (j + 1) (fF zs (j + 1)) cf) ∧ wr.heap.size ≤ w1.heap.size := by
  obtain ⟨h1, ⟨ct, h2⟩, cf, h3⟩ := h
  obtain ⟨w1, hr, hm, hg⟩ := plain_put h3 (by omega) hu (k := (j : Int)) (by omega) (by omega)
  refine ⟨w1, hr, ?_, hg.block _ h2.lt (by simp), ⟨_, by rw [fF_new zs j h0] at hm; exact hm⟩, hg.size⟩
  exact h1.trans ⟨hg.os, hg.tape, hg.output, hg.size, fun k hk => hg.block k (Nat.lt_of_lt_of_le hk h1.size) (by simp; omega)⟩

theorem T3.look {zs : List Int} {w4 wr : World} {j : Nat} (h : T3 zs w4 j wr) {x : Int} (hu : U64 x) (wx : World) (hx : wx.heap[w4.heap.size]? = wr.heap[w4.heap.size]?) :
    (Instr.lookup 46 (.map (some w4.heap.size)) (.int .u64 x) false).run Try.prog wx = .ok (.int .i64 (cnt zs j x : Int)) wx := by
  obtain ⟨h1, ⟨ct, h2⟩, h3⟩ := h
  exact plain_look (h2.of_block hx) hu (tF_get zs j x)

end Go.Proofs.Qxb6602992a.fnHeldNumbersDoNotHangOnOrderOfPuts
