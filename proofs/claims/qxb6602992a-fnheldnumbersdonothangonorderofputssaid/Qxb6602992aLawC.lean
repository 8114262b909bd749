import Derived.Test.Qxb6602992aLawB
namespace Go.Proofs.Qxb6602992a.fnHeldNumbersDoNotHangOnOrderOfPuts
open Go.RowKit
set_option linter.unusedVariables false

set_option maxHeartbeats 4000000 in
set_option maxRecDepth 100000 in
theorem walk_yes (a0 : Option Addr) (len0 cap0 : Nat) (z0 : List Int) (a1 : Option Addr) (len1 cap1 : Nat) (z1 : List Int) (w : World) (w0 : IsRow .u64 w a0 len0 cap0 z0) (w1 : IsRow .u64 w a1 len1 cap1 z1)
    (hl0 : len0 ≤ 4096) (hl1 : len1 ≤ 4096) :
    Calls Try.prog 10 #[.slice a0 len0 cap0, .slice a1 len1 cap1] w fun e w' => e = .returned (.bool true) ∧ Below w.heap.size w w' := by
  go_enter Try.func10, Try.ntmps10
  go_wp2_with fail
  refine (bytes_yes a0 a1 len0 cap0 len1 cap1 w (by omega)).mono ?_
  rintro e wx ⟨rfl, rfl⟩
  go_wp2_with fail
  refine (clone_any a0 len0 cap0 z0 wx w0 hl0).mono ?_
  rintro e wa ⟨sa, sc, rfl, hba, hSa⟩
  go_wp2_with fail
  refine (clone_any a1 len1 cap1 z1 wa (w1.below hba) hl1).mono ?_
  rintro e wb ⟨va, vc, rfl, hbb, hV⟩
  have hBb : Below wx.heap.size wx wb := hba.trans (hbb.mono hba.size)
  have hS : Rs wb sa len0 (z0.take len0) := hSa.below hbb
  clear hba hbb hSa w0 w1
  generalize z0.take len0 = zs at hS
  generalize z1.take len1 = vs at hV
  go_wp2_with fail
  refine (newHeld wb).mono ?_
  rintro e wc1 ⟨rfl, rfl⟩
  go_wp2_with fail
  refine (newHeld _).mono ?_
  rintro e wc2 ⟨rfl, rfl⟩
  go_upto_block 0 with (fail)
  have HB0 : Below wb.heap.size wb ((wb.alloc (.cells #[.slice none 0 0, .map none] 62)).alloc (.cells #[.slice none 0 0, .map none] 62)) := ((Below.refl _ _).alloc (Nat.le_refl _) _).alloc (by simp) _
  have hz0 : ((wb.alloc (.cells #[.slice none 0 0, .map none] 62)).alloc (.cells #[.slice none 0 0, .map none] 62)).heap.size = wb.heap.size + 2 := by simp
  have hF0 : ((wb.alloc (.cells #[.slice none 0 0, .map none] 62)).alloc (.cells #[.slice none 0 0, .map none] 62)).heap[wb.heap.size]? = some (.cells #[.slice none 0 0, .map none] 62 (0, 0)) := by
    rw [Below.heap_alloc _ _ _ (by simp)]; exact Go.Deep.blk_alloc_new _ _
  have hR0 : ((wb.alloc (.cells #[.slice none 0 0, .map none] 62)).alloc (.cells #[.slice none 0 0, .map none] 62)).heap[wb.heap.size + 1]? = some (.cells #[.slice none 0 0, .map none] 62 (0, 0)) := by
    have := Go.Deep.blk_alloc_new (wb.alloc (.cells #[.slice none 0 0, .map none] 62)) (.cells #[.slice none 0 0, .map none] 62)
    simpa using this
  generalize (wb.alloc (.cells #[.slice none 0 0, .map none] 62)).alloc (.cells #[.slice none 0 0, .map none] 62) = W0 at HB0 hz0 hF0 hR0 ⊢
  have HF0 := hidJ hF0
  have HR0 := hidJ hR0
  have HZ0 := hidJ hz0
  clear hF0 hR0
  have hz0' : wb.heap.size + 1 < W0.heap.size := by omega
  clear hz0
  have hus : ∀ i, U64 (zs.getD i 0) := getD_u64 hS.2.2.1
  go_cut [7] from 20 (fun s7 w1 => Sp zs vs (fun t => t) (wb.heap.size + 2) wb.heap.size W0 len0 w1)
  case first =>
    go_wp2
    go_loopw [7] (fun i wr => ∃ j : Nat, j ≤ len0 ∧ i = .int .i64 (j : Int) ∧ Sp zs vs (fun t => t) (wb.heap.size + 2) wb.heap.size W0 j wr) (fun i _ => len0 - (intOf i).toNat)
    case atStart => exact ⟨0, Nat.zero_le _, rfl, Held.new (by omega) (by rw [HZ0.out]; exact Nat.le_refl _) HF0.out, Keep.refl _ _ _⟩
    case round =>
      obtain ⟨j, hj, rfl, hsp⟩ := hrel
      by_cases hlt : j < len0
      · have hBr := hsp.below HB0 (Nat.le_refl _) (by omega)
        obtain ⟨sb, so, rfl, hsb, hsc⟩ := rs_cell hS hlt
        have xs : wr.cell? ⟨sb, so + j, none⟩ = some (.int .u64 (zs.getD j 0)) := by rw [hBr.cell (p := ⟨sb, so + j, none⟩) hsb]; exact hsc
        have VC := hidJ (viewAt_any va len1 vc vs j wr.drew (hV.below hBr.drew))
        have PC := hsp.put (by omega) (hus j) wr.drew rfl ⟨rfl, rfl, rfl⟩
        unfold msgV msgCells at PC
        generalize hx : zs.getD j 0 = x at xs PC
        generalize hv : vs.getD j 0 = v at VC PC
        have PD := hidJ PC
        have hsbw : sb < wr.heap.size := Nat.lt_of_lt_of_le hsb hBr.size
        have HX := hidJ hx
        have hwr := wrapu (j := j) (by omega)
        clear PC hx hv hsc hBr
        go_wp2
        go_region_held3 (fun w' => w'.cell? ⟨sb, so + j, none⟩ = some (.int .u64 x)) (go_keep)
          (first
            | (go_at_call 30; refine VC.out.mono ?_; rintro e w1 ⟨rfl, rfl⟩)
            | (go_at_call 29; refine PD.out.mono ?_; rintro e w2 ⟨rfl, hsp2⟩; have e0 : w2.cell? ⟨sb, so + j, none⟩ = some (.int .u64 x) := (by rw [(hsp2.below HB0 (Nat.le_refl _) (by omega)).cell (p := ⟨sb, so + j, none⟩) hsb, ← HX.out]; obtain ⟨b', o', e1, _, e2⟩ := rs_cell hS hlt; simp at e1; obtain ⟨rfl, rfl⟩ := e1; exact e2)))
        go_wp2
        go_roundw
        case rel => exact ⟨j + 1, by omega, by go_num, hsp2⟩
        case measure => simp [intOf]; omega
      · obtain rfl : j = len0 := by omega
        go_wp2
        go_meet
        case rel => exact hsp
  case rest =>
    obtain ⟨W1, hW1⟩ : ∃ W1, W1 = wc := ⟨_, rfl⟩
    rw [← hW1] at hcut ⊢
    clear hW1
    have hSP1 := hcut
    clear hcut
    have HB1 := hSP1.below HB0 (Nat.le_refl _) (by omega)
    have hb1z : wb.heap.size + 2 ≤ W1.heap.size := hSP1.1.2.1
    have HR1 := hidJ (show W1.heap[wb.heap.size + 1]? = some (.cells #[.slice none 0 0, .map none] 62 (0, 0)) by rw [hSP1.2.block (wb.heap.size + 1) (by omega) (by omega)]; exact HR0.out)
    clear HB0 HF0 HR0 HZ0 hz0'
    have HF1 := hidJ hSP1.1
    clear hSP1
    go_upto_block 2 with (fail)
    go_cut [8] from 20 (fun s8 w1 => Sp zs vs (fun t => len0 - 1 - t) W1.heap.size (wb.heap.size + 1) W1 len0 w1)
    case first =>
      go_wp2
      go_loopw [8] (fun i wr => ∃ t : Nat, t ≤ len0 ∧ i = .int .i64 ((len0 : Int) - 1 - (t : Int)) ∧ Sp zs vs (fun t => len0 - 1 - t) W1.heap.size (wb.heap.size + 1) W1 t wr) (fun i _ => (intOf i + 1).toNat)
      case atStart => exact ⟨0, Nat.zero_le _, by simp, Held.new (by omega) (Nat.le_refl _) HR1.out, Keep.refl _ _ _⟩
      case round =>
        obtain ⟨t, ht, rfl, hsp⟩ := hrel
        by_cases hlt : t < len0
        · have hBr := hsp.below HB1 (by omega) (by omega)
          have PC := hsp.put (by omega) (hus _) wr.drew rfl ⟨rfl, rfl, rfl⟩
          obtain ⟨j, hj⟩ : ∃ j, j = len0 - 1 - t := ⟨_, rfl⟩
          have hjl : j < len0 := by omega
          obtain ⟨sb, so, hsa, hsb, hsc⟩ := rs_cell hS hjl
          have xs : wr.cell? ⟨sb, so + j, none⟩ = some (.int .u64 (zs.getD j 0)) := by rw [hBr.cell (p := ⟨sb, so + j, none⟩) hsb]; exact hsc
          have VC := hidJ (viewAt_any va len1 vc vs j wr.drew (hV.below hBr.drew))
          unfold msgV msgCells at PC
          simp only [← hj] at PC
          generalize hx : zs.getD j 0 = x at xs PC
          generalize hv : vs.getD j 0 = v at VC PC
          have PD := hidJ PC
          have HX := hidJ hx
          have HSA := hidJ hsa
          have HJ := hidJ hj
          have hwr := wrapu (j := j) (by omega)
          have ei : (len0 : Int) - 1 - (t : Int) = (j : Int) := by omega
          rw [ei, hsa]
          have HE := hidJ ei
          clear PC hx hv hsc hBr hsa hj ei
          go_wp2
          go_region_held3 (fun w' => w'.cell? ⟨sb, so + j, none⟩ = some (.int .u64 x)) (go_keep)
            (first
              | (go_at_call 30; refine VC.out.mono ?_; rintro e w1 ⟨rfl, rfl⟩)
              | (go_at_call 29; refine PD.out.mono ?_; rintro e w2 ⟨rfl, hsp2⟩; have e0 : w2.cell? ⟨sb, so + j, none⟩ = some (.int .u64 x) := (by rw [(hsp2.below HB1 (by omega) (by omega)).cell (p := ⟨sb, so + j, none⟩) hsb, ← HX.out]; obtain ⟨b', o', e1, _, e2⟩ := rs_cell hS hjl; rw [HSA.out] at e1; simp at e1; obtain ⟨rfl, rfl⟩ := e1; exact e2)))
          go_wp2
          go_roundw
          case rel => exact ⟨t + 1, by omega, by rw [show (j : Int) - 1 = (len0 : Int) - 1 - ((t + 1 : Nat) : Int) from by have := HE.out; omega], hsp2⟩
          case measure => simp [intOf]
        · obtain rfl : t = len0 := by omega
          go_wp2
          go_meet
          case rel => exact hsp
    case rest =>
      obtain ⟨W2, hW2⟩ : ∃ W2, W2 = wc := ⟨_, rfl⟩
      rw [← hW2] at hcut ⊢
      clear hW2
      have HB2 := hcut.below HB1 (by omega) (by omega)
      have HF2 := HF1.out.other (w' := W2) (hx := wb.heap.size + 1) (by omega) (by omega) hcut.2.size (fun k h1 h2 => hcut.2.block k h1 h2)
      have HR2 := hcut.1
      have haF := stL_all zs vs (fun t => t) len0
      have haR := stL_all zs vs (fun t => len0 - 1 - t) len0
      rw [haF.2.2.1] at HF2
      rw [haR.2.2.1, ← stL_rev] at HR2
      have hat := hidJ (at_held zs vs len0)
      have hLm := hidJ (stL_mem zs vs (fun t => t) len0)
      have hLl := haF.2.2.2
      clear hcut HB1 HF1 HR1 haF haR hb1z
      generalize stL zs vs (fun t => t) len0 = L at HF2 HR2 hat hLm hLl
      have hLu : ∀ x ∈ L, U64 x := fun x hx => by
        obtain ⟨u, hu, e⟩ := (hLm.out x).1 hx
        rw [← e]; exact hus u
      obtain ⟨oF, cF, qF0, hRF⟩ := HF2.seqs (by omega) hLu
      obtain ⟨oR, cR, qR0, hRR⟩ := HR2.seqs (by omega) hLu
      obtain ⟨rF, qF1, hlF⟩ := HF2.count
      obtain ⟨rR, qR1, hlR⟩ := HR2.count
      have HHF := hidJ HF2
      have HHR := hidJ HR2
      clear HF2 HR2
      go_wp2_with fail
      refine (heldSeqs (wb.heap.size) (.map none) W2 oF L.length cF qF0).mono ?_
      rintro e w3 ⟨rfl, rfl⟩
      go_wp2_with fail
      refine (heldSeqs (wb.heap.size + 1) (.map none) w3 oR L.length cR qR0).mono ?_
      rintro e w4 ⟨rfl, rfl⟩
      go_wp2_with fail
      refine (equal_same oF oR L.length cF cR L w4 hRF hRR).mono ?_
      rintro e w5 ⟨rfl, nd, rfl⟩
      have CF := hidJ (heldCount wb.heap.size rF L.length (w4.drewN nd) qF1 (hlF _ rfl))
      have CR := hidJ (heldCount (wb.heap.size + 1) rR L.length (w4.drewN nd) qR1 (hlR _ rfl))
      clear hlF hlR
      go_wp2_with fail
      refine CF.out.mono ?_
      rintro e w6 ⟨rfl, rfl⟩
      go_wp2_with fail
      refine CR.out.mono ?_
      rintro e w7 ⟨rfl, rfl⟩
      have hmm := @run_makeMap Try.prog
      go_upto_block 4 with (fail)
      have h3s := T3_start zs w4 nd
      generalize ((w4.drewN nd).alloc (.map #[] 0)).alloc (.map #[] 0) = W5 at h3s ⊢
      clear hmm CF CR qF1 qR1 hRR qF0 qR0
      go_cut [13] from 20 (fun s13 w1 => T3 zs w4 len0 w1)
      case first =>
        go_wp2
        go_loopw [13] (fun i wr => ∃ j : Nat, j ≤ len0 ∧ i = .int .i64 (j : Int) ∧ T3 zs w4 j wr) (fun i _ => len0 - (intOf i).toNat)
        case atStart => exact ⟨0, Nat.zero_le _, rfl, h3s⟩
        case round =>
          obtain ⟨j, hj, rfl, h3⟩ := hrel
          by_cases hlt : j < len0
          · have hBr : Below wb.heap.size wb wr := HB2.trans (h3.1.mono HB2.size)
            obtain ⟨sb, so, rfl, hsb, hsc⟩ := rs_cell hS hlt
            have xs : wr.cell? ⟨sb, so + j, none⟩ = some (.int .u64 (zs.getD j 0)) := by rw [hBr.cell (p := ⟨sb, so + j, none⟩) hsb]; exact hsc
            have hl1 := h3.look (hus j) wr rfl
            by_cases hk : cnt zs j (zs.getD j 0) = 0
            · obtain ⟨wq, hu1, hBq, hbq, hfq, hsq⟩ := h3.first (by omega) (hus j) hk
              have hl2 := h3.look (hus j) wq.drew hbq
              obtain ⟨w2, hu2, h32⟩ := h3.step (by omega) (hus j) hBq hbq hfq
              have xq : wq.cell? ⟨sb, so + j, none⟩ = some (.int .u64 (zs.getD j 0)) := by rw [(HB2.trans (hBq.mono HB2.size)).cell (p := ⟨sb, so + j, none⟩) hsb]; exact hsc
              have H32 := hidJ h32
              have g1 : ((cnt zs j (zs.getD j 0) : Int) == 0) = true := beq_iff_eq.2 (by omega)
              have gb := cnt_le zs j (zs.getD j 0)
              generalize zs.getD j 0 = x at xs hl1 hu1 hl2 hu2 xq g1 gb
              generalize cnt zs j x = k at hl1 hl2 hu2 g1 gb
              clear hk hsc hBr h3 hfq hbq hBq h32 hsq
              go_wp2
              go_region
              go_wp2
              go_roundw
              case rel => exact ⟨j + 1, by omega, by go_num, H32.out⟩
              case measure => simp [intOf]; omega
            · have hfo : ∃ cf, UMap (plainElem Try.prog 3) wr (w4.heap.size + 1) (j + 1) (fF zs (j + 1)) cf := by
                obtain ⟨_, _, cf, hf⟩ := h3
                rw [fF_old zs j hk] at hf
                obtain ⟨D, hD, hr⟩ := hf
                exact ⟨cf, D, hD.mono (by omega), hr⟩
              have hl2 := h3.look (hus j) wr.drew rfl
              obtain ⟨w2, hu2, h32⟩ := h3.step (by omega) (hus j) h3.1 rfl hfo
              have H32 := hidJ h32
              have g1 : ((cnt zs j (zs.getD j 0) : Int) == 0) = false := beq_eq_false_iff_ne.2 (by omega)
              have gb := cnt_le zs j (zs.getD j 0)
              generalize zs.getD j 0 = x at xs hl1 hl2 hu2 g1 gb
              generalize cnt zs j x = k at hl1 hl2 hu2 g1 gb
              clear hk hsc hBr h3 hfo h32
              go_wp2
              go_region
              go_wp2
              go_roundw
              case rel => exact ⟨j + 1, by omega, by go_num, H32.out⟩
              case measure => simp [intOf]; omega
          · obtain rfl : j = len0 := by omega
            go_wp2
            go_meet
            case rel => exact h3
      case rest =>
        obtain ⟨W6, hW6⟩ : ∃ W6, W6 = wc := ⟨_, rfl⟩
        rw [← hW6] at hcut ⊢
        clear hW6 h3s
        have hT := hcut
        clear hcut
        have HB6 : Below wb.heap.size wb W6 := HB2.trans (hT.1.mono HB2.size)
        have HBf := hidJ (hBb.trans (HB6.mono hBb.size))
        go_wp2
        go_loopw [14] (fun i wr => ∃ k : Nat, k ≤ L.length ∧ i = .int .i64 (k : Int) ∧ Below W6.heap.size W6 wr) (fun i _ => L.length - (intOf i).toNat)
        case atStart => exact ⟨0, Nat.zero_le _, rfl, Below.refl _ _⟩
        case round =>
          obtain ⟨k, hk, rfl, hBw⟩ := hrel
          by_cases hlt : k < L.length
          · obtain ⟨lb, lo, rfl, hlb, hlc⟩ := rs_cell hRF hlt
            have B4r : Below w4.heap.size w4 wr := hT.1.trans (hBw.mono hT.1.size)
            have Bbr : Below wb.heap.size wb wr := HB6.trans (hBw.mono HB6.size)
            have xk : wr.cell? ⟨lb, lo + k, none⟩ = some (.int .u64 (L.getD k 0)) := by rw [B4r.cell (p := ⟨lb, lo + k, none⟩) hlb]; exact hlc
            have hmem : L.getD k 0 ∈ L := by simp only [List.getD, List.getElem?_eq_getElem hlt, Option.getD_some]; exact List.getElem_mem hlt
            obtain ⟨i0, i1, hi0, hi1, hfst, hrv, hfw, hone⟩ := hat.out _ hmem
            have hux := hLu _ hmem
            generalize L.getD k 0 = x at xk hmem hfst hrv hfw hone hux
            obtain ⟨bF, qF, hFw, lkF⟩ := HHF.out.get hux hfw
            obtain ⟨bR, qR, hRw, lkR⟩ := HHR.out.get hux hrv
            have yF : wr.cell? ⟨wb.heap.size, 1, none⟩ = some (.map (some bF)) := by rw [B4r.cell (p := ⟨wb.heap.size, 1, none⟩) hFw]; exact qF
            have hz4 := B4r.size
            have GF := hidJ (heldGet wb.heap.size bF x _ _ wr yF (by omega) (lkF wr B4r.block))
            go_wp2_with fail
            refine GF.out.mono ?_
            rintro e wg ⟨rfl, hbg⟩
            unfold msgV msgCells
            have B4g : Below w4.heap.size w4 wg := B4r.trans (hbg.mono hz4)
            have B4h : ∀ o, Below w4.heap.size w4 (wg.alloc o) := fun o => B4g.alloc (by have := hbg.size; omega) _
            have hzg : wr.heap.size ≤ wg.heap.size := hbg.size
            have yR : ∀ o, (wg.alloc o).cell? ⟨wb.heap.size + 1, 1, none⟩ = some (.map (some bR)) := fun o => by rw [(B4h o).cell (p := ⟨wb.heap.size + 1, 1, none⟩) hRw]; exact qR
            have xg : ∀ o, (wg.alloc o).cell? ⟨lb, lo + k, none⟩ = some (.int .u64 x) := fun o => by rw [World.cell?_alloc_past (w := wg) o lb (lo + k) (by omega), hbg.cell (p := ⟨lb, lo + k, none⟩) (show lb < wr.heap.size by omega)]; exact xk
            have GR := hidJ (fun o => heldGet (wb.heap.size + 1) bR x _ _ (wg.alloc o) (yR o) (by simp; omega) (lkR (wg.alloc o) (B4h o).block))
            clear GF lkF lkR yF
            go_wp2_with fail
            refine (GR.out _).mono ?_
            rintro e wh ⟨rfl, hbh⟩
            unfold msgV msgCells
            have hzh : wg.heap.size < wh.heap.size := by have := hbh.size; simp at this; omega
            have n3 : wh.cell? ⟨wg.heap.size, 3, none⟩ = some (.int .u64 x) := by rw [hbh.cell (p := ⟨wg.heap.size, 3, none⟩) (by simp), World.cell?_alloc_at _ _ _ _ rfl]; rfl
            have n4 : wh.cell? ⟨wg.heap.size, 4, none⟩ = some (.int .u64 (vs.getD i1 0)) := by rw [hbh.cell (p := ⟨wg.heap.size, 4, none⟩) (by simp), World.cell?_alloc_at _ _ _ _ rfl]; rfl
            have n5 : wh.cell? ⟨wg.heap.size, 5, none⟩ = some (.int .u64 (i1 : Int)) := by rw [hbh.cell (p := ⟨wg.heap.size, 5, none⟩) (by simp), World.cell?_alloc_at _ _ _ _ rfl]; rfl
            have B4k : Below w4.heap.size w4 wh := (B4h _).trans (hbh.mono (by simp; omega))
            have xh : ∀ o, (wh.alloc o).cell? ⟨lb, lo + k, none⟩ = some (.int .u64 x) := fun o => by rw [World.cell?_alloc_past (w := wh) o lb (lo + k) (by omega), hbh.cell (p := ⟨lb, lo + k, none⟩) (by simp; omega)]; exact xg _
            have B6k : Below W6.heap.size W6 wh := hBw.trans ((hbg.mono hBw.size).trans ((((Below.refl _ _).alloc (Nat.le_refl _) _).trans (hbh.mono (by simp))).mono (Nat.le_trans hBw.size hzg)))
            have U1 : ∀ o, UMap (plainElem Try.prog 3) (wh.alloc o) (w4.heap.size + 1) len0 (fF zs len0) hT.2.2.choose := fun o => hT.2.2.choose_spec.of_block ((B6k.alloc B6k.size o).block _ hT.2.2.choose_spec.lt)
            have U2 : ∀ o, UMap (plainElem Try.prog 3) (wh.alloc o) w4.heap.size len0 (tF zs len0) hT.2.1.choose := fun o => hT.2.1.choose_spec.of_block ((B6k.alloc B6k.size o).block _ hT.2.1.choose_spec.lt)
            have fL := fun o => plain_look (U1 o) hux (fF_get zs len0 i0 x hfst)
            have tL := fun o nd => plain_look (w := (wh.alloc o).drewN nd) ((U2 o).of_block rfl) hux (tF_get zs len0 x)
            have Bbh : ∀ o nd, Below wb.heap.size wb ((wh.alloc o).drewN nd) := fun o nd => HB2.trans (((B4k.alloc (by have := B4k.size; omega) o).trans (below_dn _ _ nd)).mono HB2.size)
            have VA := hidJ (fun o nd => viewAt_any va len1 vc vs i0 ((wh.alloc o).drewN nd) (hV.below (Bbh o nd)))
            have HEND := hidJ (fun o nd => (B6k.alloc B6k.size o).trans (below_dn _ _ nd))
            have hwr := wrapu (j := i0) (by omega)
            have hgt := cnt_le zs len0 x
            have hlz : lb < wh.heap.size := by omega
            clear GR U1 U2 B4h B4k B4g hbh hbg xg yR B6k Bbh hfst hrv hfw B4r Bbr xk hlc hmem
            have HON := hidJ hone
            clear hone
            generalize cnt zs len0 x = kx at tL HON hgt
            by_cases hk1 : kx = 1
            · obtain rfl := HON.out hk1
              have g1 : ((kx : Int) == 1) = true := beq_iff_eq.2 (by omega)
              generalize vs.getD i1 0 = v0 at n4 VA ⊢
              clear hk1 HON
              have hvv : (v0 != v0) = false := by simp
              have hii : ((i1 : Int) != (i1 : Int)) = false := by simp
              go_wp2
              go_quiet ((go_at_call 30; exact Calls.quiet_of_same (VA.out _ _)))
              go_wp2
              go_roundw
              case rel => exact ⟨k + 1, by omega, by go_num, HEND.out _ _⟩
              case measure => simp [intOf]; omega
            · have g1 : ((kx : Int) == 1) = false := beq_eq_false_iff_ne.2 (by omega)
              clear hk1 HON
              generalize vs.getD i1 0 = v1 at n4 ⊢
              generalize vs.getD i0 0 = v0 at VA ⊢
              have hvv : (v0 != v0) = false := by simp
              have hii : ((i0 : Int) != (i0 : Int)) = false := by simp
              go_wp2
              go_quiet ((go_at_call 30; exact Calls.quiet_of_same (VA.out _ _)))
              go_wp2
              go_roundw
              case rel => exact ⟨k + 1, by omega, by go_num, HEND.out _ _⟩
              case measure => simp [intOf]; omega
          · obtain rfl : k = L.length := by omega
            go_wp2
            go_ret
            exact ⟨rfl, HBf.out.trans (hBw.mono (by have := HBf.out.size; omega))⟩

end Go.Proofs.Qxb6602992a.fnHeldNumbersDoNotHangOnOrderOfPuts
