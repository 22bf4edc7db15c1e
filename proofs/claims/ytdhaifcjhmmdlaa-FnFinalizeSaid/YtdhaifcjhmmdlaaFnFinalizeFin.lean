/-
  FnFinalize: SourceMapPieces.Finalize writes the moved items.
  Conditions: two shifts or more; numbers of 31 bits; fewer than 2^32 bytes.
-/
import Derived.Test.YtdhaifcjhmmdlaaFnFinalizeHd
namespace Go.Proofs.Ytdhaifcjhmmdlaa.fnFinalize
open Go.RowKit Go.Proofs.YtdhaifcjhmmdlaaW.PrintWords Go.Proofs.YtdhaifcjhmmdlaaW.PrintLast Go.Proofs.YtdhaifcjhmmdlaaW.PrintMore
set_option linter.unusedVariables false
set_option linter.unusedSimpArgs false

set_option maxHeartbeats 16000000 in
set_option maxRecDepth 100000 in
theorem finalize (W : World) (vp vm vs vsh : Value) (P T S : List UInt8) (SH : List Sh) (l : List It) (hp : Bs W W.heap.size vp P) (hm : Bs W W.heap.size vm T) (hs : Bs W W.heap.size vs S) (hsh : Sl W W.heap.size vsh SH) (h2 : 2 ≤ SH.length)
    (hT : T = tl l) (hC : Cs l) (hCn : ∀ x ∈ l.tail, x.c = true ∨ 0 < x.k) (hR : Rg l) (hS : Ss SH) (hF : (P ++ tlF ⟨0, 0, 0, SH⟩ l ++ S).length < 4294967296) (hTl : T.length < 4294967296) (hL : l.length ≤ 1000) :
    Calls Try.prog 15 #[.agg #[vp, vm, vs], vsh] W fun e w' => ∃ v, e = .returned v ∧ Bt w' w'.heap.size v (P ++ tlF ⟨0, 0, 0, SH⟩ l ++ S) ∧ Below W.heap.size W w' := by
  have HP := Lib.hid hp
  have HM := Lib.hid hm
  have HS := Lib.hid hs
  have HSH := Lib.hid hsh
  obtain ⟨gp, op, cp, rfl, hcp, hgp, _⟩ := hp
  obtain ⟨gm, om, cm, rfl, hcm, hgm, _⟩ := hm
  obtain ⟨gs, os, cs, rfl, hcs, hgs, _⟩ := hs
  obtain ⟨gh, oh, ch, rfl, hch, hgh, _⟩ := hsh
  have l1 : ((SH.length : Int) == 1) = false := beq_eq_false_iff_ne.mpr (by omega)
  have HT := Lib.hid hT
  have HC := Lib.hid hC
  have HCN := Lib.hid hCn
  have HR := Lib.hid hR
  have HSS := Lib.hid hS
  have HF := Lib.hid hF
  clear hT hC hCn hR hS hF
  go_enter Try.func15, Try.ntmps15
  go_wp2_with (fail)
  have hA := heap_alloc_new W (.cells #[.slice (some ⟨gp, op, none⟩) P.length cp, .slice (some ⟨gm, om, none⟩) T.length cm, .slice (some ⟨gs, os, none⟩) S.length cs] 49)
  have hAs : (W.alloc (.cells #[.slice (some ⟨gp, op, none⟩) P.length cp, .slice (some ⟨gm, om, none⟩) T.length cm, .slice (some ⟨gs, os, none⟩) S.length cs] 49)).heap.size = W.heap.size + 1 := by simp
  have hAb := (Below.refl W.heap.size W).alloc (Nat.le_refl _) (.cells #[.slice (some ⟨gp, op, none⟩) P.length cp, .slice (some ⟨gm, om, none⟩) T.length cm, .slice (some ⟨gs, os, none⟩) S.length cs] 49)
  generalize W.alloc (.cells #[.slice (some ⟨gp, op, none⟩) P.length cp, .slice (some ⟨gm, om, none⟩) T.length cm, .slice (some ⟨gs, os, none⟩) S.length cs] 49) = WA at hA hAs hAb ⊢
  have hB1 := heap_alloc_new WA (.cells #[.int .i64 0, .int .i64 0] 44)
  have hB0 := (Below.heap_alloc WA (.cells #[.int .i64 0, .int .i64 0] 44) W.heap.size (by omega)).trans hA
  have hBs : (WA.alloc (.cells #[.int .i64 0, .int .i64 0] 44)).heap.size = W.heap.size + 1 + 1 := by simp [hAs]
  have hBb := hAb.alloc (by omega) (.cells #[.int .i64 0, .int .i64 0] 44)
  rw [hAs] at hB1
  generalize WA.alloc (.cells #[.int .i64 0, .int .i64 0] 44) = WB at hB1 hB0 hBs hBb ⊢
  have hC2 := heap_alloc_new WB (.cells #[.slice none 0 0, .slice none 0 0, .int .u32 0, .int .u8 0] 60)
  have hC1 := (Below.heap_alloc WB (.cells #[.slice none 0 0, .slice none 0 0, .int .u32 0, .int .u8 0] 60) (W.heap.size + 1) (by omega)).trans hB1
  have hC0 := (Below.heap_alloc WB (.cells #[.slice none 0 0, .slice none 0 0, .int .u32 0, .int .u8 0] 60) W.heap.size (by omega)).trans hB0
  have hCs : (WB.alloc (.cells #[.slice none 0 0, .slice none 0 0, .int .u32 0, .int .u8 0] 60)).heap.size = W.heap.size + 1 + 1 + 1 := by simp [hBs]
  have hCb := hBb.alloc (by omega) (.cells #[.slice none 0 0, .slice none 0 0, .int .u32 0, .int .u8 0] 60)
  rw [hBs] at hC2
  generalize WB.alloc (.cells #[.slice none 0 0, .slice none 0 0, .int .u32 0, .int .u8 0] 60) = WC at hC2 hC1 hC0 hCs hCb ⊢
  clear hA hAs hAb hB1 hB0 hBs hBb
  have hb1 : W.heap.size < W.heap.size + 1 := by omega
  have hb2 : W.heap.size + 1 < W.heap.size + 1 + 1 := by omega
  generalize W.heap.size + 1 = b1 at *
  generalize b1 + 1 = b2 at *
  have hJ0 : Jo WC (b2 + 1) b2 [W.heap.size, b1, b2] (.slice none 0 0) [] := by
    refine ⟨⟨0, hC2⟩, World.ownsRow_nil _ _ _ _, by simp, by simp, ?_, by omega⟩
    intro x hx
    simp at hx
    omega
  have hPk : Ck WC [W.heap.size, b1, b2] (.slice none 0 0) (.slice (some ⟨gp, op, none⟩) P.length cp) P := by
    obtain ⟨g, o, cap, e, _, _, h4⟩ := HP.out.below hCb
    cases e
    have := Bs.part (W := WC) (N := W.heap.size) (X := [W.heap.size, b1, b2]) (rv := .slice none 0 0) (l := P) (cap := cp) 0 P.length (by omega) (by omega) hgp (by omega) (by simp; omega) (by simp [Value.ownBlock]) h4 (some ⟨gp, op, none⟩) cp (by omega) P.length (by omega) (fun _ => rfl)
    simpa using this
  have hPl : tot [] + P.length < 4294967296 := by
    have := HF.out
    simp [tot] at this ⊢
    omega
  refine (addAny WC (b2 + 1) b2 _ _ [] _ P hJ0 hPk hPl (by simp)).mono ?_
  rintro e w1 ⟨rfl, rv1, chs1, hJ1, ha1, hn1, hg1⟩
  have HH := Lib.hid (show Hd W w1 b1 b2 (.slice (some ⟨gp, op, none⟩) P.length cp) (.slice (some ⟨gm, om, none⟩) T.length cm) (.slice (some ⟨gs, os, none⟩) S.length cs) (.slice (some ⟨gh, oh, none⟩) SH.length ch) P T S (P ++ tlF ⟨0, 0, 0, SH⟩ l) l.length ⟨0, 0, 0, SH⟩ l 0 0 chs1 rv1 from by
    have hk : ∀ g, g < b2 → w1.heap[g]? = WC.heap[g]? := fun g hg => hg1.block g (by omega) (by omega) (by simp [Value.ownBlock])
    have hbl : Below W.heap.size W w1 := ⟨hg1.os.trans hCb.os, hg1.tape.trans hCb.tape, hg1.output.trans hCb.output, by have := hg1.size; omega, fun k hk2 => (hk k (by omega)).trans (hCb.block k hk2)⟩
    refine ⟨(hk b1 (by omega)).trans hC1, (hk _ (by omega)).trans hC0, HSH.out.below hbl, hJ1, hbl, by rw [List.drop_zero]; exact HT.out, ⟨by omega, by omega⟩, ?_, HC.out, HCN.out, HR.out, HSS.out, by simp, by simp, by simp, by simp at hn1; omega⟩
    rw [ha1]
    simp [all])
  clear hC2 hC1 hC0 hCs hCb hJ0 hPk hPl hJ1 ha1 hn1 hg1
  go_wp2_with (fail)
  go_loopw [1, 7, 8, 10] (fun v1 v7 v8 v10 wr => ∃ (f : Fs) (l' : List It) (i run : Nat) (chs : Chs) (rv : Value), v7 = .int .i64 (run : Int) ∧ v8 = .int .i64 (i : Int) ∧ v10 = .int .i64 f.prev ∧ Hid (Hd W wr b1 b2 (.slice (some ⟨gp, op, none⟩) P.length cp) (.slice (some ⟨gm, om, none⟩) T.length cm) (.slice (some ⟨gs, os, none⟩) S.length cs) v1 P T S (P ++ tlF ⟨0, 0, 0, SH⟩ l) l.length f l' i run chs rv)) (fun _ _ v8 _ _ => T.length - (intOf v8).toNat)
  case atStart => exact ⟨⟨0, 0, 0, SH⟩, l, 0, 0, chs1, rv1, rfl, rfl, rfl, HH⟩
  case round =>
    obtain ⟨f, l', i, run, chs, rv, rfl, rfl, rfl, HD⟩ := hrel
    clear HH
    have c1 : wr.cell? ⟨W.heap.size, 1, none⟩ = some (.slice (some ⟨gm, om, none⟩) T.length cm) := blk_cell HD.out.t2 1
    have c2 : wr.cell? ⟨W.heap.size, 2, none⟩ = some (.slice (some ⟨gs, os, none⟩) S.length cs) := blk_cell HD.out.t2 2
    by_cases hi : i < T.length
    · have x0 : (0 : Int) ≤ (i : Int) := by omega
      have x1 : (i : Int) < (T.length : Int) := by omega
      have c3 : wr.cell? ⟨b1, 0, none⟩ = some (.int .i64 f.line) := blk_cell HD.out.t9 0
      have c4 : wr.cell? ⟨b1, 1, none⟩ = some (.int .i64 f.col) := blk_cell HD.out.t9 1
      have f3 : wr.frozen? ⟨b1, 0, none⟩ = false := blk_frozen HD.out.t9 0
      have f4 : wr.frozen? ⟨b1, 1, none⟩ = false := blk_frozen HD.out.t9 1
      have hcell : ∀ q (hq : q < T.length), wr.cell? ⟨gm, om + q, none⟩ = some (bval T[q]) := by
        obtain ⟨g, o, cap, e, _, _, h4⟩ := HM.out.below HD.out.bl
        cases e
        exact h4
      have HCELL := Lib.hid hcell
      cases l' with
      | nil => exact absurd HD.out.dr (drop_ne hi)
      | cons it r =>
        have hln := HD.out.ln
        cases hk : it.k with
        | succ k =>
          have hdr := HD.out.dr
          rw [tl_semi it k hk] at hdr
          obtain ⟨_, hTi, hdr1⟩ := drop_at hdr
          have c5 : wr.cell? ⟨gm, om + i, none⟩ = some (.int .u8 59) := by
            rw [hcell i hi, hTi]; rfl
          have wl : wrap64 (f.line + 1) = f.line + 1 := wrap_line hln hi hTl
          have wi : wrap64 ((i : Int) + 1) = (i : Int) + 1 := wrap_up hi hTl
          have HDR := Lib.hid hdr1
          have HTI := Lib.hid hTi
          have HK := Lib.hid hk
          clear hcell hdr hdr1 hTi hk
          go_upto_region 17 with (fail)
          have hB1 := blk_put HD.out.t9 0 (.int .i64 (f.line + 1)) (cs' := #[.int .i64 (f.line + 1), .int .i64 f.col]) rfl
          have hk1 : ∀ g, g < wr.heap.size → g ≠ b1 → (wr.setCell ⟨b1, 0, none⟩ (.int .i64 (f.line + 1))).heap[g]? = wr.heap[g]? := fun g _ hg => Below.heap_setCell wr ⟨b1, 0, none⟩ _ g hg
          have hs1 : (wr.setCell ⟨b1, 0, none⟩ (.int .i64 (f.line + 1))).heap.size = wr.heap.size := by simp [World.setCell]
          have HQ := Lib.hid (⟨hB1, hk1, hs1⟩ : _ ∧ _ ∧ _)
          have HHI := Lib.hid (⟨hi, hln, hb1, hb2, hTl⟩ : _ ∧ _ ∧ _ ∧ _ ∧ _)
          clear hB1 hk1 hs1 c1 c2 c5 x0 x1 hi hln hb1 hb2 hcp hgp hcm hgm hcs hgs hch hgh h2 hTl hL l1
          go_upto_region 18 with (fail)
          clear c3 c4 f3 f4
          obtain ⟨hB1, hk1, hs1⟩ := HQ.out
          have ho1 : (wr.setCell ⟨b1, 0, none⟩ (.int .i64 (f.line + 1))).os = wr.os := rfl
          have hta1 : (wr.setCell ⟨b1, 0, none⟩ (.int .i64 (f.line + 1))).tape = wr.tape := rfl
          have hout1 : (wr.setCell ⟨b1, 0, none⟩ (.int .i64 (f.line + 1))).output = wr.output := rfl
          clear HQ
          generalize wr.setCell ⟨b1, 0, none⟩ (.int .i64 (f.line + 1)) = w1 at hB1 hk1 hs1 ho1 hta1 hout1 ⊢
          have c4 : w1.cell? ⟨b1, 1, none⟩ = some (.int .i64 f.col) := blk_cell hB1 1
          have f4 : w1.frozen? ⟨b1, 1, none⟩ = false := blk_frozen hB1 1
          have hB2 := blk_put hB1 1 (.int .i64 0) (cs' := #[.int .i64 (f.line + 1), .int .i64 0]) rfl
          have hk2 : ∀ g, g < wr.heap.size → g ≠ b1 → (w1.setCell ⟨b1, 1, none⟩ (.int .i64 0)).heap[g]? = wr.heap[g]? := fun g h1 hg => (Below.heap_setCell w1 ⟨b1, 1, none⟩ _ g hg).trans (hk1 g h1 hg)
          have hs2 : (w1.setCell ⟨b1, 1, none⟩ (.int .i64 0)).heap.size = wr.heap.size := by simp [World.setCell, hs1]
          have HQ := Lib.hid (⟨hB2, hk2, hs2⟩ : _ ∧ _ ∧ _)
          clear hB1 hk1 hs1 hB2 hk2 hs2
          go_upto_region 19 with (fail)
          obtain ⟨hi, hln, hb1, hb2, hTl⟩ := HHI.out
          obtain ⟨hB2, hk2, hs2⟩ := HQ.out
          obtain ⟨q1, q2, q3, q4⟩ := HD.out.put hb1 hb2 (w' := w1.setCell ⟨b1, 1, none⟩ (.int .i64 0)) (by exact ho1) (by exact hta1) (by exact hout1) (by omega) hk2
          have HN := Lib.hid (HD.out.semi k HK.out hi HTI.out HDR.out hB2 q1 q2 q3 q4)
          have HWI := Lib.hid wi
          clear HQ hB2 hk2 hs2 q1 q2 q3 q4 c4 f4 hln hb1 hb2 hTl wi wl
          generalize w1.setCell ⟨b1, 1, none⟩ (.int .i64 0) = w2 at HN ⊢
          have wi := HWI.out
          go_wp2_with (fail)
          go_roundw
          case rel =>
            refine ⟨f.line1, { it with k := k } :: r, i + 1, run, chs, rv, rfl, ?_, rfl, HN⟩
            rw [HWI.out]
            rfl
          case measure =>
            rw [HWI.out]
            simp only [intOf]
            omega
        | zero =>
          have hdr := HD.out.dr
          rw [tl_seg it hk r HD.out.cs.tail] at hdr
          obtain ⟨hRd, hRa, hRb, hRe, hRn⟩ := HD.out.rg it (by simp)
          obtain ⟨bb, br, hv1, hb59, hb44⟩ := vlq_first it.d
          have hTi : T[i] = bb := by
            have h := hdr
            rw [hv1, List.cons_append] at h
            exact (drop_at h).2.1
          have c5 : wr.cell? ⟨gm, om + i, none⟩ = some (.int .u8 (bb.toNat : Int)) := by
            rw [hcell i hi, hTi]; rfl
          have wc := wrap_col HD.out.cl hL hRd
          have hBT : Bt wr W.heap.size (.slice (some ⟨gm, om, none⟩) T.length cm) T := (HM.out.below HD.out.bl).bt
          have HBT := Lib.hid hBT
          have HDR := Lib.hid hdr
          have HK := Lib.hid hk
          have HRG := Lib.hid (⟨hRd, hRa, hRb, hRe, hRn⟩ : _ ∧ _ ∧ _ ∧ _ ∧ _)
          have HBG := Lib.hid (⟨hi, hln, hb1, hb2, hTl, hL, h2⟩ : _ ∧ _ ∧ _ ∧ _ ∧ _ ∧ _ ∧ _)
          have HB44 := Lib.hid hb44
          have HWC := Lib.hid wc
          clear hcell hdr hTi hk hBT hRd hRa hRb hRe hRn hv1 hb44 hln hb1 hb2 hL h2 wc
          go_upto_region 21 with (fail)
          clear c5 x0 x1 hb59
          go_wp2_with (fail)
          refine (decode_num wr W.heap.size _ T i it.d _ HBT.out HDR.out HRG.out.1.big.1 HRG.out.1.big.2 (by omega)).mono ?_
          rintro e w0 ⟨rfl, rfl⟩
          have HP1 := Lib.hid (drop_app HDR.out)
          generalize hq1 : i + (vlq it.d).length = p1 at HP1 ⊢
          have HQ1 := Lib.hid hq1
          clear hq1
          have wc := HWC.out
          clear c1 c2
          go_upto_region 23 with (fail)
          have hB1 := blk_put HD.out.t9 1 (.int .i64 (f.col + it.d)) (cs' := #[.int .i64 f.line, .int .i64 (f.col + it.d)]) rfl
          have hk1 : ∀ g, g < w0.heap.size → g ≠ b1 → (w0.setCell ⟨b1, 1, none⟩ (.int .i64 (f.col + it.d))).heap[g]? = w0.heap[g]? := fun g _ hg => Below.heap_setCell w0 ⟨b1, 1, none⟩ _ g hg
          have hs1 : (w0.setCell ⟨b1, 1, none⟩ (.int .i64 (f.col + it.d))).heap.size = w0.heap.size := by simp [World.setCell]
          have HQ := Lib.hid (⟨hB1, HD.out.put HBG.out.2.2.1 HBG.out.2.2.2.1 (w' := w0.setCell ⟨b1, 1, none⟩ (.int .i64 (f.col + it.d))) rfl rfl rfl (by omega) hk1⟩ : _ ∧ _)
          have HHG := Lib.hid (⟨hgm, hgs, hgp, hgh, hcm, hcs, hTl, hi⟩ : _ ∧ _ ∧ _ ∧ _ ∧ _ ∧ _ ∧ _ ∧ _)
          clear hB1 hk1 hs1 c3 f3 hcp hgp hcm hgm hcs hgs hch hgh l1 hTl hi
          go_upto_region 24 with (fail)
          clear c4 f4
          generalize w0.setCell ⟨b1, 1, none⟩ (.int .i64 (f.col + it.d)) = w1 at HQ ⊢
          have c1 : w1.cell? ⟨W.heap.size, 1, none⟩ = some (.slice (some ⟨gm, om, none⟩) T.length cm) := blk_cell HQ.out.2.2.2.2 1
          have hBT : Bt w1 W.heap.size (.slice (some ⟨gm, om, none⟩) T.length cm) T := (HM.out.below HQ.out.2.1).bt
          have HBT1 := Lib.hid hBT
          have hTl := HHG.out.2.2.2.2.2.2.1
          have hdr := HP1.out
          rw [rest_eq it, List.append_assoc, List.append_assoc, List.append_assoc] at hdr
          have hp1 : p1 < T.length := drop_lt hdr (by simp [vlq_ne])
          have HDA := Lib.hid hdr
          have y0 : (0 : Int) ≤ (p1 : Int) := by omega
          have y1 : (p1 : Int) < (T.length : Int) := by omega
          clear hdr hp1 hBT
          go_wp2_with (fail)
          refine (decode_num w1 W.heap.size _ T p1 it.a _ HBT1.out HDA.out HRG.out.2.1.big.1 HRG.out.2.1.big.2 (by omega)).mono ?_
          rintro e w2 ⟨rfl, rfl⟩
          have HDB := Lib.hid (drop_app HDA.out)
          clear y0 y1
          generalize hq1 : p1 + (vlq it.a).length = p2 at HDB ⊢
          have HQ2 := Lib.hid hq1
          clear hq1
          go_wp2_with (fail)
          refine (decode_num w2 W.heap.size _ T p2 it.b _ HBT1.out HDB.out HRG.out.2.2.1.big.1 HRG.out.2.2.1.big.2 (by omega)).mono ?_
          rintro e w3 ⟨rfl, rfl⟩
          have HDE := Lib.hid (drop_app HDB.out)
          generalize hq1 : p2 + (vlq it.b).length = p3 at HDE ⊢
          have HQ3 := Lib.hid hq1
          clear hq1
          go_wp2_with (fail)
          refine (decode_num w3 W.heap.size _ T p3 it.e _ HBT1.out HDE.out HRG.out.2.2.2.1.big.1 HRG.out.2.2.2.1.big.2 (by omega)).mono ?_
          rintro e w4 ⟨rfl, rfl⟩
          have HDN := Lib.hid (drop_app HDE.out)
          generalize hq1 : p3 + (vlq it.e).length = p4 at HDN ⊢
          have HQ4 := Lib.hid hq1
          clear hq1
          have hBH : T.drop (p4 + (nmt it).length) = comma r ++ tl r := drop_app HDN.out
          have hbeh := behind hBH HD.out.cs.tail (fun x hx => HD.out.cn x (List.mem_of_mem_head? hx))
          have HBH := Lib.hid hBH
          have HBE := Lib.hid hbeh
          clear hBH hbeh
          go_upto_if 119 with (fail)
          go_cut [8] (fun v8 wc => ∃ p5 : Nat, v8 = .int .i64 (p5 : Int) ∧ Hid (p5 = p4 + (nmt it).length) ∧ wc = w4)
          case first =>
            cases hnm : it.nm with
            | some n =>
              have hnt : nmt it = vlq n := by simp [nmt, hnm]
              have hdn := HDN.out
              rw [hnt] at hdn
              have hp4 : p4 < T.length := drop_lt hdn (by simp [vlq_ne])
              have q1 := dec_lt hp4
              have q2 : decide (p4 < T.length) = true := decide_eq_true hp4
              have HDN2 := Lib.hid hdn
              have HNT := Lib.hid hnt
              have HNM := Lib.hid hnm
              clear hdn hnt hnm
              go_wp2_with (fail)
              refine (decode_num w4 W.heap.size _ T p4 n _ HBT1.out HDN2.out (HRG.out.2.2.2.2 n HNM.out).big.1 (HRG.out.2.2.2.2 n HNM.out).big.2 (by omega)).mono ?_
              rintro e w5 ⟨rfl, rfl⟩
              go_wp2_with (fail)
              go_meet
              case rel => exact ⟨p4 + (vlq n).length, by simp, Lib.hid (by rw [HNT.out]), rfl⟩
            | none =>
              have hnt : nmt it = [] := by simp [nmt, hnm]
              have hb := HBE.out
              rw [hnt, List.length_nil, Nat.add_zero] at hb
              have HNT := Lib.hid hnt
              clear hnt hnm
              by_cases hp4 : p4 < T.length
              · obtain ⟨b, s, hdn, hbb⟩ : ∃ b s, T.drop p4 = b :: s ∧ (b = 44 ∨ b = 59) := by
                  rcases hb with ⟨_, h⟩ | ⟨_, h, _⟩ | ⟨_, s, h, _⟩
                  · omega
                  · exact ⟨44, _, h, .inl rfl⟩
                  · exact ⟨59, _, h, .inr rfl⟩
                have q1 := dec_lt hp4
                have q2 : decide (p4 < T.length) = true := decide_eq_true hp4
                have HDN2 := Lib.hid hdn
                clear hdn hb
                go_wp2_with (fail)
                refine (decode_no w4 W.heap.size _ T p4 b s HBT1.out HDN2.out hbb).mono ?_
                rintro e w5 ⟨rfl, rfl⟩
                go_wp2_with (fail)
                go_meet
                case rel => exact ⟨p4, rfl, Lib.hid (by rw [HNT.out]; rfl), rfl⟩
              · have q1 := dec_ge (Nat.not_lt.1 hp4)
                have q2 : decide (p4 < T.length) = false := decide_eq_false hp4
                clear hb
                go_wp2_with (fail)
                go_meet
                case rel => exact ⟨p4, rfl, Lib.hid (by rw [HNT.out]; rfl), rfl⟩
          case rest =>
          obtain ⟨p5, rfl, HP5, rfl⟩ := hcut
          have hb := HBE.out
          have hp5 := HP5.out
          rw [← hp5] at hb
          have HB5 := Lib.hid hb
          clear hb hp5
          have HT5 := Lib.hid (show T.drop p5 = comma r ++ tl r by rw [HP5.out]; exact HBH.out)
          go_upto_region 32 with (fail)
          go_cut [139] from 127 to 138 (fun v139 wd => v139 = .bool (decide (comma r = [44])) ∧ wd = wc)
          case first =>
            rcases HB5.out with ⟨hr, h⟩ | ⟨hcm, h, hl⟩ | ⟨hcm, s, h, hl⟩
            · have q1 := dec_ge h
              have q2 : decide (p5 < T.length) = false := decide_eq_false (by omega)
              have hd : decide (comma r = [44]) = false := decide_eq_false (by rw [hr]; simp [comma])
              have HH1 := Lib.hid (⟨hr, h⟩ : _ ∧ _)
              clear hr h
              go_wp2_with (fail)
              go_meet
              case rel => exact ⟨by rw [hd], rfl⟩
            · have q1 := dec_lt hl
              have q2 : decide (p5 < T.length) = true := decide_eq_true hl
              have c5 : wc.cell? ⟨gm, om + p5, none⟩ = some (.int .u8 44) := by
                obtain ⟨g, o, cap, e, _, _, h4⟩ := HM.out.below HQ.out.2.1
                cases e
                rw [h4 p5 hl, (drop_at h).2.1]; rfl
              have z0 : (0 : Int) ≤ (p5 : Int) := by omega
              have z1 : (p5 : Int) < (T.length : Int) := by omega
              have HCM := Lib.hid hcm
              clear hcm h
              go_wp2_with (fail)
              go_meet
              case rel => exact ⟨by rw [decide_eq_true HCM.out], rfl⟩
            · have q1 := dec_lt hl
              have q2 : decide (p5 < T.length) = true := decide_eq_true hl
              have c5 : wc.cell? ⟨gm, om + p5, none⟩ = some (.int .u8 59) := by
                obtain ⟨g, o, cap, e, _, _, h4⟩ := HM.out.below HQ.out.2.1
                cases e
                rw [h4 p5 hl, (drop_at h).2.1]; rfl
              have z0 : (0 : Int) ≤ (p5 : Int) := by omega
              have z1 : (p5 : Int) < (T.length : Int) := by omega
              have hd : decide (comma r = [44]) = false := decide_eq_false (by rw [hcm]; simp)
              have HCM := Lib.hid hcm
              clear hcm h
              go_wp2_with (fail)
              go_meet
              case rel => exact ⟨by rw [hd], rfl⟩
          case rest =>
          obtain ⟨rfl, rfl⟩ := hcut
          go_upto_if 139 with (fail)
          go_cut [8] (fun v8 wd => ∃ p6 : Nat, v8 = .int .i64 (p6 : Int) ∧ Hid (p6 = p5 + (comma r).length) ∧ wd = wc)
          case first =>
            rcases comma_or r with h | h
            · have hd : decide (comma r = [44]) = true := decide_eq_true h
              have hp5 : p5 < T.length := by
                have hT5 := HT5.out
                rw [h] at hT5
                exact drop_lt hT5 (by simp)
              have w5 : wrap64 ((p5 : Int) + 1) = (p5 : Int) + 1 := wrap_up hp5 hTl
              have HH := Lib.hid h
              have HW5 := Lib.hid w5
              rw [hd]
              clear h hp5
              go_wp2_with (fail)
              go_meet
              case rel => exact ⟨p5 + 1, by first | (rw [HW5.out]; rfl) | rfl | simp, Lib.hid (by rw [HH.out]; rfl), rfl⟩
            · have hd : decide (comma r = [44]) = false := decide_eq_false (by rw [h]; simp)
              have HH := Lib.hid h
              rw [hd]
              clear h
              go_wp2_with (fail)
              go_meet
              case rel => exact ⟨p5, rfl, Lib.hid (by rw [HH.out]; rfl), rfl⟩
          case rest =>
          obtain ⟨p6, rfl, HP6, rfl⟩ := hcut
          have HT6 := Lib.hid (show T.drop p6 = tl r by rw [HP6.out]; exact drop_app HT5.out)
          have HSS1 := Lib.hid HD.out.ss
          clear c1 hTl
          go_upto_block 2 with (fail)
          go_cut [1, 16] from 142 to 154 (fun v1 v16 wd => ∃ sh' : List Sh, v16 = .bool (decide (sh'.length ≠ f.sh.length)) ∧ Hid (Sl wd W.heap.size v1 sh') ∧ Hid (sh' = skip f.line (f.col + it.d) f.sh) ∧ Hid (Ss sh') ∧ Hid (Below wc.heap.size wc wd))
          case first =>
            go_wp2_with (fail)
            go_loopw [1, 16] (fun v1 v16 wd => ∃ sh' : List Sh, v16 = .bool (decide (sh'.length ≠ f.sh.length)) ∧ Hid (Sl wd W.heap.size v1 sh') ∧ Hid (skip f.line (f.col + it.d) sh' = skip f.line (f.col + it.d) f.sh) ∧ Hid (Ss sh') ∧ Hid (sh'.length ≤ f.sh.length) ∧ Hid (Below wc.heap.size wc wd)) (fun v1 _ _ => match v1 with | .slice _ n _ => n | _ => 0)
            case atStart => exact ⟨f.sh, by simp, Lib.hid HQ.out.2.2.1, Lib.hid rfl, HSS1, Lib.hid (Nat.le_refl _), Lib.hid (Below.refl _ _)⟩
            case round =>
              obtain ⟨sh', rfl, HSL, HSK, HSS2, HLE, HBW⟩ := hrel
              obtain ⟨g, o, cap, rfl, hcap, hg, hcl⟩ := HSL.out
              match sh', hcap, hcl, HSL, HSK, HSS2, HLE with
              | [], _, _, _, _, HSS2, _ => exact absurd rfl HSS2.out.1
              | [s], hcap, hcl, HSL, HSK, HSS2, HLE =>
                clear hcl
                have hn1 : decide (1 < ((1 : Nat) : Int)) = false := by decide
                go_wp2_with (fail)
                simp only [List.length_singleton] at *
                go_quiet (fail)
                have hx := HSL.out
                go_wp2_with (fail)
                go_meet
                exact ⟨[s], rfl, Lib.hid HSL.out, Lib.hid HSK.out, HSS2, Lib.hid (HBW.out.trans ⟨rfl, rfl, rfl, Nat.le_refl _, fun _ _ => rfl⟩)⟩
              | s :: t :: r2, hcap, hcl, HSL, HSK, HSS2, HLE =>
                have hct := hcl 1 (by simp)
                have hn1 : (1 : Int) < (((s :: t :: r2).length : Nat) : Int) := by simp; omega
                have hn2 : decide ((1 : Int) < (((s :: t :: r2).length : Nat) : Int)) = true := decide_eq_true hn1
                obtain ⟨n, hn⟩ : ∃ n, n = (s :: t :: r2).length := ⟨_, rfl⟩
                rw [← hn] at hn1 hn2 hcap ⊢
                obtain ⟨bq, hbq⟩ : ∃ bq, bq = decide (n ≠ f.sh.length) := ⟨_, rfl⟩
                rw [← hbq]
                have HBQ16 := Lib.hid hbq
                clear hbq
                have HLN := Lib.hid hn
                have HN1 := Lib.hid (⟨hcap, hcl⟩ : _ ∧ _)
                obtain ⟨k0, k1, _, _⟩ := hct
                have k0 : wr.cell? ⟨g, o + 4, none⟩ = some (.int .i64 t.line) := k0
                have k1 : wr.cell? ⟨g, o + 4 + 1, none⟩ = some (.int .i64 t.col) := k1
                have e9 : wr.heap[b1]? = some (.cells #[.int .i64 f.line, .int .i64 (f.col + it.d)] 44 (0, 0)) := (HBW.out.block b1 (blk_lt HQ.out.1)).trans HQ.out.1
                have c3 : wr.cell? ⟨b1, 0, none⟩ = some (.int .i64 f.line) := blk_cell e9 0
                have c4 : wr.cell? ⟨b1, 1, none⟩ = some (.int .i64 (f.col + it.d)) := blk_cell e9 1
                clear hcl e9 hn hcap
                go_upto_region 35 with (fail)
                go_cut [152] from 142 to 151 (fun v152 wd => v152 = .bool (bef ⟨t.line, t.col, 0, 0⟩ f.line (f.col + it.d)) ∧ Hid (Below wr.heap.size wr wd))
                case first =>
                  have hB0 := Lib.hid (Below.refl wr.heap.size wr)
                  have n1 := World.new_ne wr ⟨b1, 0, none⟩ c3
                  have n2 := World.new_ne wr ⟨b1, 1, none⟩ c4
                  have n3 := World.new_ne wr ⟨g, o + 4, none⟩ k0
                  have n4 := World.new_ne wr ⟨g, o + 4 + 1, none⟩ k1
                  clear HP HM HS HSH HT HC HCN HR HSS HF HCELL HD HBT HDR HK HRG HBG HB44 HWC HP1 HQ1 HQ HHG HBT1 HDA HDB HQ2 HDE HQ3 HDN HQ4 HBH HBE HP5 HB5 HT5 HP6 HT6 HSS1 HSL HSK HSS2 HLE HBW HN1 hg
                  go_region_with (go_at_call 22; refine (comesBefore t.line t.col f.line (f.col + it.d) _).mono ?_; rintro e wx ⟨rfl, rfl⟩)
                  all_goals
                    change Exit.then _ _ Exit.normal (Act.put _ (some 152) _) _
                    simp only [Exit.then, Act.put, List.setIfInBounds_toArray, List.set_cons_zero, List.set_cons_succ]
                    go_wp2_with (fail)
                    go_meet
                    case rel => exact ⟨rfl, Lib.hid (by repeat (first | exact Below.refl _ _ | apply Below.drew | refine Below.alloc ?_ (by first | (simp; done) | (simp; omega)) _))⟩
                case rest =>
                  obtain ⟨rfl, HBQ⟩ := hcut
                  have hbb := HBW.out.trans (HBQ.out.mono HBW.out.size)
                  have HBB := Lib.hid hbb
                  clear hbb
                  cases hbf : bef ⟨t.line, t.col, 0, 0⟩ f.line (f.col + it.d) with
                  | false =>
                    have HBF := Lib.hid hbf
                    clear hbf
                    go_wp2_with (fail)
                    go_meet
                    exact ⟨s :: t :: r2, by rw [HBQ16.out, HLN.out], Lib.hid (by rw [HLN.out]; exact HSL.out.below (HBQ.out.mono (by have := HBW.out.size; have := HQ.out.2.1.size; omega))), Lib.hid (by rw [← HSK.out, skip_f _ _ _ HBF.out]), HSS2, HBB⟩
                  | true =>
                    have HBF := Lib.hid hbf
                    clear hbf
                    have HLT := Lib.hid (show (t :: r2).length < f.sh.length from by have := HLE.out; simp only [List.length_cons] at this ⊢; omega)
                    have hsl := (HSL.out.below (HBQ.out.mono (by have := HBW.out.size; have := HQ.out.2.1.size; omega))).tail (by simp)
                    rw [← HLN.out] at hsl
                    have HSL2 := Lib.hid hsl
                    clear hsl
                    go_wp2_with (fail)
                    refine ⟨⟨t :: r2, ?_, HSL2, Lib.hid ?_, Lib.hid ?_, Lib.hid (Nat.le_of_lt HLT.out), HBB⟩, ?_⟩
                    · rw [decide_eq_true (Nat.ne_of_lt HLT.out)]
                    · rw [← HSK.out, skip_t _ _ _ HBF.out]
                    · exact ⟨by simp, fun x hx => HSS2.out.2 x (List.mem_cons_of_mem _ hx)⟩
                    · show n - 1 < n
                      omega
          case rest =>
          obtain ⟨sh', rfl, HSL, HSK, HSS2, HBW⟩ := hcut
          have HE9 := Lib.hid ((HBW.out.block b1 (blk_lt HQ.out.1)).trans HQ.out.1)
          have HE4 := Lib.hid ((HBW.out.block W.heap.size (blk_lt HQ.out.2.2.2.2)).trans HQ.out.2.2.2.2)
          have HEJ := Lib.hid (HQ.out.2.2.2.1.wide HBW.out.size HBW.out.block)
          have HEB := Lib.hid (HQ.out.2.1.trans (HBW.out.mono HQ.out.2.1.size))
          have HSS3 := Lib.hid (show Ss (skip f.line (f.col + it.d) f.sh) by rw [← HSK.out]; exact HSS2.out)
          have HP := Lib.hid (seg_pos it r HQ1.out HQ2.out HQ3.out HQ4.out HP5.out HP6.out)
          have HMS := Lib.hid (show i < p6 by have := HP.out; have := List.length_pos_iff.2 (vlq_ne it.d); omega)
          by_cases hx : sh'.length = f.sh.length
          · have hhit : f.hit it = false := by
              rw [hit_flat f it HK.out, ← HSK.out]
              simp [hx]
            have HN := Lib.hid (HD.out.seg HK.out HDR.out HP.out hhit HE9.out HEB.out (by rw [← HSK.out]; exact HSL.out) HEJ.out HE4.out HSS3.out)
            have HPV := Lib.hid (step_prev f it HK.out hhit)
            have hd : decide (sh'.length ≠ f.sh.length) = false := by simp [hx]
            rw [hd]
            clear hx hd hhit
            go_wp2_with (fail)
            go_roundw
            case rel => exact ⟨f.step it, r, p6, run, chs, rv, rfl, rfl, by rw [HPV.out], HN⟩
            case measure =>
              have := HMS.out
              have := HHG.out.2.2.2.2.2.2.2
              simp only [intOf]
              omega
          · obtain ⟨g, o, cap, rfl, hcap, hg, hcl⟩ := HSL.out
            obtain ⟨s, r2, rfl⟩ : ∃ s r2, sh' = s :: r2 := by
              cases sh' with
              | nil => exact absurd rfl HSS2.out.1
              | cons s r2 => exact ⟨s, r2, rfl⟩
            obtain ⟨k0, k1, k2, k3⟩ := hcl 0 (by simp)
            have k0 : wc.cell? ⟨g, o, none⟩ = some (.int .i64 s.line) := by simpa using k0
            have k1 : wc.cell? ⟨g, o + 1, none⟩ = some (.int .i64 s.col) := by simpa using k1
            have k2 : wc.cell? ⟨g, o + 2, none⟩ = some (.int .i64 s.aline) := by simpa using k2
            have k3 : wc.cell? ⟨g, o + 3, none⟩ = some (.int .i64 s.acol) := by simpa using k3
            have hd : decide ((s :: r2).length ≠ f.sh.length) = true := decide_eq_true hx
            rw [hd]
            obtain ⟨n, hn⟩ : ∃ n, n = (s :: r2).length := ⟨_, rfl⟩
            rw [← hn]
            have hn0 : (0 : Int) < (n : Int) := by rw [hn]; simp
            have HNL := Lib.hid hn
            have HX := Lib.hid hx
            have HCP := Lib.hid hcap
            clear hcl hd hn hx hcap
            go_upto_region 39 with (fail)
            go_upto_region 40 with (fail)
            clear k0 k1 k2 k3
            have hb5 := heap_alloc_new wc (.cells #[.int .i64 s.line, .int .i64 s.col, .int .i64 s.aline, .int .i64 s.acol] 46)
            have hk5 : ∀ q, q < wc.heap.size → (wc.alloc (.cells #[.int .i64 s.line, .int .i64 s.col, .int .i64 s.aline, .int .i64 s.acol] 46)).heap[q]? = wc.heap[q]? := fun q hq => Below.heap_alloc wc _ q hq
            have hs5 : (wc.alloc (.cells #[.int .i64 s.line, .int .i64 s.col, .int .i64 s.aline, .int .i64 s.acol] 46)).heap.size = wc.heap.size + 1 := by simp
            have hB5 := HEB.out.alloc HEB.out.size (.cells #[.int .i64 s.line, .int .i64 s.col, .int .i64 s.aline, .int .i64 s.acol] 46)
            have hJ5 := HEJ.out.wide (W' := wc.alloc (.cells #[.int .i64 s.line, .int .i64 s.col, .int .i64 s.aline, .int .i64 s.acol] 46)) (by omega) hk5
            have h95 := (hk5 b1 (blk_lt HE9.out)).trans HE9.out
            have h45 := (hk5 W.heap.size (blk_lt HE4.out)).trans HE4.out
            have hS5 := HSL.out.below (W' := wc.alloc (.cells #[.int .i64 s.line, .int .i64 s.col, .int .i64 s.aline, .int .i64 s.acol] 46)) ((Below.refl W.heap.size wc).alloc HEB.out.size _)
            have hr5 : ∀ k, rv.ownBlock = some k → b2 + 1 ≤ k ∧ k < wc.heap.size := fun k hk => HEJ.out.own.lt k hk
            have hz5 := HEJ.out.size
            generalize wc.alloc (.cells #[.int .i64 s.line, .int .i64 s.col, .int .i64 s.aline, .int .i64 s.acol] 46) = W5 at hb5 hk5 hs5 hB5 hJ5 h95 h45 hS5 ⊢
            have H5 := Lib.hid (⟨hB5, hJ5, h95, h45, hS5, hr5, hs5, hz5, hb5⟩ : _ ∧ _ ∧ _ ∧ _ ∧ _ ∧ _ ∧ _ ∧ _ ∧ _)
            clear hb5 hk5 hs5 hB5 hJ5 h95 h45 hS5 hr5 hz5
            generalize wc.heap.size = b5 at H5 ⊢
            obtain ⟨_, a1, a2, a3, a4, a5, hal⟩ := HSS2.out.2 s (by simp)
            have HSB := Lib.hid (⟨a1, a2, a3, a4, a5, hal⟩ : _ ∧ _ ∧ _ ∧ _ ∧ _ ∧ _)
            have HHE := Lib.hid (show (skip f.line (f.col + it.d) f.sh).head? = some s by rw [← HSK.out]; rfl)
            have HLX := Lib.hid (show (skip f.line (f.col + it.d) f.sh).length ≠ f.sh.length by rw [← HSK.out]; exact HX.out)
            clear a1 a2 a3 a4 a5
            have k2 : W5.cell? ⟨b5, 2, none⟩ = some (.int .i64 s.aline) := blk_cell H5.out.2.2.2.2.2.2.2.2 2
            have c3 : W5.cell? ⟨b1, 0, none⟩ = some (.int .i64 f.line) := blk_cell H5.out.2.2.1 0
            by_cases hfl : s.aline = f.line
            · have hhit : f.hit it = true := by
                rw [hit_flat f it HK.out, List.headD_eq_head?_getD, HHE.out]
                exact decide_eq_true ⟨HLX.out, hfl⟩
              have HFL := Lib.hid hfl
              have HHT := Lib.hid hhit
              rw [hfl] at k2
              clear hfl hhit hal
              go_upto_region 41 with (fail)
              clear k2 c3
              have c1 : W5.cell? ⟨W.heap.size, 1, none⟩ = some (.slice (some ⟨gm, om, none⟩) T.length cm) := blk_cell H5.out.2.2.2.1 1
              have hle := HD.out.le
              have hcm := HHG.out.2.2.2.2.1
              have hgm := HHG.out.1
              have r0 : (0 : Int) ≤ (run : Int) := by omega
              have r2 : run ≤ i := hle.1
              have r3 : i ≤ cm := by omega
              have r4 : i ≤ T.length := hle.2
              have HFW := Lib.hid (HD.out.few HK.out s HHE.out HHT.out)
              have HFL2 := Lib.hid (show (P ++ tlF ⟨0, 0, 0, SH⟩ l).length < 4294967296 by have := HF.out; rw [List.length_append] at this; omega)
              have HCH := Lib.hid (show chs.length + 2 * (r.length + 1) ≤ 2 * l.length + 1 from HD.out.ch)
              have r5 : ¬ (cm = run) := by have := HHG.out.2.2.2.2.2.2.2; omega
              have r6 : ¬ (run = cm) := fun e => r5 e.symm
              clear hle
              go_wp2_with (fail)
              refine (addAny W5 (b2 + 1) b2 [W.heap.size, b1, b2] rv chs _ ((T.take i).drop run) H5.out.2.1 (Bs.part (N := W.heap.size) (cap := cm) (o := om) (l := T) run i r2 r4 hgm H5.out.1.size (by have := HBG.out.2.2; simp; omega) (fun k hk => by have := (H5.out.2.2.2.2.2.1 k hk).1; have := HBG.out.2.2; omega) (fun q hq => ?hcell) _ _ ?hc1 _ rfl ?hc2) (by have := HFW.out; have := HFL2.out; omega) (by have := HCH.out; have := HBG.out.2.2.2.2.2.1; omega)).mono ?_
              case hcell =>
                obtain ⟨g, o, cap, e, _, _, h4⟩ := HM.out.below H5.out.1
                cases e
                exact h4 q hq
              case hc1 => omega
              case hc2 => intro hlt; first | rfl | omega
              rintro e w1 ⟨rfl, rv1, chs1, hJ1, ha1, hn1, hg1⟩
              clear r0 r2 r3 r4 r5 r6 c1 hcm hgm
              have hbb := HBG.out.2.2
              have hz5 := H5.out.2.2.2.2.2.2.2.1
              have hr5 := H5.out.2.2.2.2.2.1
              have hb5 := H5.out.2.2.2.2.2.2.2.2
              have hB1 := H5.out.1.trans (hg1.low (N := W.heap.size) (B := b2 + 1) (fun k hk => (hr5 k hk).1) (by omega) (by omega) H5.out.1.size)
              have h91 := (hg1.hk (B := b2 + 1) (fun k hk => (hr5 k hk).1) (blk_lt H5.out.2.2.1) (by omega) (by omega)).trans H5.out.2.2.1
              have h41 := (hg1.hk (B := b2 + 1) (fun k hk => (hr5 k hk).1) (blk_lt H5.out.2.2.2.1) (by omega) (by omega)).trans H5.out.2.2.2.1
              have hb51 := (hg1.block b5 (blk_lt hb5) (by omega) (fun e => by have := (hr5 b5 e.symm).2; omega)).trans hb5
              have hS1 := H5.out.2.2.2.2.1.below (hg1.low (N := W.heap.size) (B := b2 + 1) (fun k hk => (hr5 k hk).1) (by omega) (by omega) H5.out.1.size)
              have ht1 := tot_of ha1
              have H1 := Lib.hid (⟨hB1, hJ1, h91, h41, hS1, ha1, hn1, ht1⟩ : _ ∧ _ ∧ _ ∧ _ ∧ _ ∧ _ ∧ _ ∧ _)
              clear hB1 hJ1 h91 h41 hS1 ha1 hn1 ht1 hg1 hb5 hr5
              have ef : s.line = f.line := HSB.out.2.2.2.2.2.symm.trans HFL.out
              have d0 : w1.cell? ⟨b5, 0, none⟩ = some (.int .i64 f.line) := by rw [← ef]; exact blk_cell hb51 0
              have d1 : w1.cell? ⟨b5, 1, none⟩ = some (.int .i64 s.col) := blk_cell hb51 1
              have d2 : w1.cell? ⟨b5, 2, none⟩ = some (.int .i64 f.line) := by rw [← HFL.out]; exact blk_cell hb51 2
              have d3 : w1.cell? ⟨b5, 3, none⟩ = some (.int .i64 s.acol) := blk_cell hb51 3
              have n1 := HSB.out
              have n2 := HRG.out.1
              have n3 := HD.out.pv
              have e1 : wrap64 (s.acol - s.col) = s.acol - s.col := by unfold wrap64; omega
              have e2 : wrap64 (it.d + (s.acol - s.col)) = it.d + (s.acol - s.col) := by have := n2.1; have := n2.2; unfold wrap64; omega
              have e3 : wrap64 (it.d + (s.acol - s.col) - f.prev) = it.d + (s.acol - s.col) - f.prev := by have := n2.1; have := n2.2; unfold wrap64; omega
              have m1 : -4294967296 < it.d + (s.acol - s.col) - f.prev := by have := n2.1; have := n2.2; omega
              have m2 : it.d + (s.acol - s.col) - f.prev < 4294967296 := by have := n2.1; have := n2.2; omega
              have HMM := Lib.hid (⟨m1, m2⟩ : _ ∧ _)
              clear n1 n2 n3 m1 m2 ef hb51 hbb hz5
              go_wp2_with (fail)
              refine (encode w1 (it.d + (s.acol - s.col) - f.prev) HMM.out.1 HMM.out.2).mono ?_
              rintro e w2 ⟨v, rfl, hov, hb2⟩
              clear d0 d1 d2 d3
              have hJ1 := H1.out.2.1
              have hz1 := hJ1.size
              have hbb := HBG.out.2.2
              have hJ2 := hJ1.wide hb2.size hb2.block
              have hr1 : ∀ k, rv1.ownBlock = some k → b2 + 1 ≤ k ∧ k < w1.heap.size := fun k hk => hJ1.own.lt k hk
              have hC2 : Ck w2 [W.heap.size, b1, b2] rv1 v (vlq (it.d + (s.acol - s.col) - f.prev)) := Ck.own hov (by simp; omega) (fun k hk => (hr1 k hk).2)
              have h92 := (hb2.block b1 (blk_lt H1.out.2.2.1)).trans H1.out.2.2.1
              have h42 := (hb2.block W.heap.size (blk_lt H1.out.2.2.2.1)).trans H1.out.2.2.2.1
              have hb2' := hb2.mono H1.out.1.size
              have hB2 := H1.out.1.trans hb2'
              have hS2 := H1.out.2.2.2.2.1.below hb2'
              have H2 := Lib.hid (⟨hB2, hJ2, h92, h42, hS2, hC2, hr1⟩ : _ ∧ _ ∧ _ ∧ _ ∧ _ ∧ _ ∧ _)
              have HSZ := Lib.hid (⟨hz1, hb2.size⟩ : _ ∧ _)
              clear hJ1 hz1 hbb hJ2 hr1 hC2 h92 h42 hb2' hB2 hS2 hov hb2
              go_wp2_with (fail)
              refine (addAny w2 (b2 + 1) b2 [W.heap.size, b1, b2] rv1 chs1 v (vlq (it.d + (s.acol - s.col) - f.prev)) H2.out.2.1 H2.out.2.2.2.2.2.1 ?hf1 ?hf2).mono ?_
              case hf1 =>
                have h1 := HFW.out
                have h2 := HFL2.out
                have h3 := H1.out.2.2.2.2.2.2.2
                have e : it.d + s.dl - f.prev = it.d + (s.acol - s.col) - f.prev := rfl
                rw [e] at h1
                omega
              case hf2 =>
                have h1 := H1.out.2.2.2.2.2.2.1
                have h2 := HCH.out
                have h3 := HBG.out.2.2.2.2.2.1
                omega
              rintro e w3 ⟨rfl, rv2, chs2, hJ3, ha3, hn3, hg3⟩
              have hbb := HBG.out.2.2
              have hr1 := H2.out.2.2.2.2.2.2
              have hz := HSZ.out
              have hl3 := hg3.low (N := W.heap.size) (B := b2 + 1) (fun k hk => (hr1 k hk).1) (by omega) (by omega) (by omega)
              have hB3 := H2.out.1.trans hl3
              have h93 := (hg3.hk (B := b2 + 1) (fun k hk => (hr1 k hk).1) (blk_lt H2.out.2.2.1) (by omega) (by omega)).trans H2.out.2.2.1
              have h43 := (hg3.hk (B := b2 + 1) (fun k hk => (hr1 k hk).1) (blk_lt H2.out.2.2.2.1) (by omega) (by omega)).trans H2.out.2.2.2.1
              have hS3 := H2.out.2.2.2.2.1.below hl3
              have hcc : all chs2 = all chs ++ (T.take i).drop run ++ vlq (it.d + s.dl - f.prev) := by
                rw [ha3, H1.out.2.2.2.2.2.1]
                rfl
              have hcn : chs2.length = chs.length + 2 := by rw [hn3, H1.out.2.2.2.2.2.2.1]
              have hX := HD.out.cross HK.out HDR.out HQ1.out.symm HP.out HHT.out h93 hB3 (by rw [← HSK.out]; exact hS3) hJ3 h43 HSS3.out s HHE.out hcc hcn
              have HN := Lib.hid hX.1
              have HPV := Lib.hid hX.2
              have HNL2 := HNL.out
              rw [← HNL2] at HN
              clear hbb hr1 hz hl3 hB3 h93 h43 hS3 hcc hcn hX HNL2 hJ3 ha3 hn3 hg3
              go_wp2_with (fail)
              go_roundw
              case rel => exact ⟨f.step it, r, p6, p1, chs2, rv2, rfl, rfl, by rw [HPV.out]; rfl, HN⟩
              case measure =>
                have := HMS.out
                have := HHG.out.2.2.2.2.2.2.2
                simp only [intOf]
                omega
            · have hhit : f.hit it = false := by
                rw [hit_flat f it HK.out, List.headD_eq_head?_getD, HHE.out]
                exact decide_eq_false (fun e => hfl e.2)
              have q1 : (s.aline == f.line) = false := beq_eq_false_iff_ne.mpr hfl
              have q2 : (s.aline != f.line) = true := by simp [hfl]
              obtain ⟨hB5, hJ5, h95, h45, hS5, _⟩ := H5.out
              have HN := Lib.hid (HD.out.seg HK.out HDR.out HP.out hhit h95 hB5 (by rw [← HSK.out]; exact hS5) hJ5 h45 HSS3.out)
              have HPV := Lib.hid (step_prev f it HK.out hhit)
              have HNL2 := HNL.out
              rw [← HNL2] at HN
              clear hB5 hJ5 h95 h45 hS5 hhit HNL2 hal hfl
              go_wp2_with (fail)
              go_roundw
              case rel => exact ⟨f.step it, r, p6, run, chs, rv, rfl, rfl, by rw [HPV.out], HN⟩
              case measure =>
                have := HMS.out
                have := HHG.out.2.2.2.2.2.2.2
                simp only [intOf]
                omega
    · obtain rfl : i = T.length := by have := HD.out.le; omega
      have hi' : ¬ ((T.length : Int) < (T.length : Int)) := by omega
      obtain rfl : l' = [] := by
        have := HD.out.dr
        rw [List.drop_length] at this
        exact tl_nil this.symm
      have r0 : (0 : Int) ≤ (run : Int) := by omega
      have r1 : (run : Int) ≤ (T.length : Int) := by have := HD.out.le.1; omega
      have r2 : run ≤ T.length := by omega
      clear r1
      have hfn := HD.out.fn
      have hF := HF.out
      rw [← hfn] at hF
      simp only [List.length_append, all_len, List.take_length, List.length_drop] at hF
      have hch := HD.out.ch
      have hro : ∀ k, rv.ownBlock = some k → b2 + 1 ≤ k := fun k hk => (HD.out.jo.own.lt k hk).1
      have hsz := HD.out.jo.size
      have HRO := Lib.hid hro
      clear hfn hro
      go_wp2_with (fail)
      all_goals
        refine (addAny wr (b2 + 1) b2 [W.heap.size, b1, b2] rv chs _ ((T.take T.length).drop run) HD.out.jo (Bs.part (N := W.heap.size) (cap := cm) (o := om) run T.length r2 (Nat.le_refl _) hgm HD.out.bl.size (by simp; omega) (fun k hk => by have := HRO.out k hk; omega) (fun q hq => ?hcell) _ _ ?hc1 _ rfl ?hc2) (by simp; omega) (by omega)).mono ?_
        case hcell =>
          obtain ⟨g, o, cap, e, _, _, h4⟩ := HM.out.below HD.out.bl
          cases e
          exact h4 q hq
        case hc1 => omega
        case hc2 => intro hlt; first | rfl | omega
        rintro e w1 ⟨rfl, rv1, chs1, hJ1, ha1, hn1, hg1⟩
        have hk1 : ∀ k, k < b2 → w1.heap[k]? = wr.heap[k]? := fun k hk => hg1.hk HRO.out (by omega) (by omega) (by omega)
        have hbl1 : Below W.heap.size W w1 := ⟨hg1.os.trans HD.out.bl.os, hg1.tape.trans HD.out.bl.tape, hg1.output.trans HD.out.bl.output, by have := HD.out.bl.size; have := hg1.size; omega, fun k hk2 => (hk1 k (by omega)).trans (HD.out.bl.block k hk2)⟩
        have d2 : w1.cell? ⟨W.heap.size, 2, none⟩ = some (.slice (some ⟨gs, os, none⟩) S.length cs) := (cell_of' (hk1 _ (by omega))).trans c2
        have HJ1 := Lib.hid hJ1
        have HA1 := Lib.hid ha1
        have HBL1 := Lib.hid hbl1
        have hsz1 := hg1.size
        clear hJ1 ha1 hbl1 hk1 hg1
        go_wp2_with (fail)
        have hlen1 : tot chs1 = tot chs + (T.length - run) := by
          have := congrArg List.length HA1.out
          rw [List.length_append, all_len, all_len] at this
          simpa using this
        refine (addAny w1 (b2 + 1) b2 [W.heap.size, b1, b2] rv1 chs1 _ ((S.take S.length).drop 0) HJ1.out (Bs.part (N := W.heap.size) (cap := cs) (o := os) 0 S.length (Nat.zero_le _) (Nat.le_refl _) hgs HBL1.out.size (by simp; omega) (fun k hk => by have := (HJ1.out.own.lt k hk).1; omega) (fun q hq => ?hcell) _ _ ?hc1 _ rfl ?hc2) (by simp; omega) (by omega)).mono ?_
        case hcell =>
          obtain ⟨g, o, cap, e, _, _, h4⟩ := HS.out.below HBL1.out
          cases e
          exact h4 q hq
        case hc1 => omega
        case hc2 => intro hlt; rfl
        rintro e w2 ⟨rfl, rv2, chs2, hJ2, ha2, hn2, hg2⟩
        have hlen2 : tot chs2 = tot chs1 + S.length := by
          have := congrArg List.length ha2
          rw [List.length_append, all_len, all_len] at this
          simpa using this
        have hbl2 : Below W.heap.size W w2 := ⟨hg2.os.trans HBL1.out.os, hg2.tape.trans HBL1.out.tape, hg2.output.trans HBL1.out.output, by have := HBL1.out.size; have := hg2.size; omega, fun k hk2 => (hg2.hk (B := b2 + 1) (fun k hk => (HJ1.out.own.lt k hk).1) (by omega) (by omega) (by omega)).trans (HBL1.out.block k hk2)⟩
        have HJ2 := Lib.hid hJ2
        have HA2 := Lib.hid ha2
        have HBL2 := Lib.hid hbl2
        have hsz2 := hg2.size
        clear hJ2 ha2 hbl2 hg2
        go_wp2_with (fail)
        refine (joinDone w2 (b2 + 1) b2 _ rv2 chs2 HJ2.out (by omega) (by omega)).mono ?_
        rintro e w3 ⟨v, rfl, hv, hb3⟩
        have HV := Lib.hid hv
        have HB3 := Lib.hid hb3
        clear hv hb3
        go_wp2_with (fail)
        go_ret
        refine ⟨_, rfl, ?_, ?_⟩
        · have e : all chs2 = P ++ tlF ⟨0, 0, 0, SH⟩ l ++ S := by
            rw [HA2.out, HA1.out, ← HD.out.fn]
            simp [tlF]
          rw [← e]
          exact HV.out
        · exact HBL2.out.trans (HB3.out.mono (by omega))
end Go.Proofs.Ytdhaifcjhmmdlaa.fnFinalize
