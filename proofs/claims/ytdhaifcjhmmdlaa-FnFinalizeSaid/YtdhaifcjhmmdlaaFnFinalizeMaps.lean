/-
  FnFinalize: spec.Mappings reads the items of a text.
  Conditions: numbers of 31 bits; fewer than 2^32 bytes; at most 1,000 items.
-/
import Derived.Test.YtdhaifcjhmmdlaaFnFinalizeMaps0
import Derived.BigRegion
namespace Go.Proofs.Ytdhaifcjhmmdlaa.fnFinalize
open Go.RowKit Go.Proofs.YtdhaifcjhmmdlaaW.PrintWords Go.Proofs.YtdhaifcjhmmdlaaW.PrintLast Go.Proofs.YtdhaifcjhmmdlaaW.PrintMore Go.Proofs.Ytdhaifcjhmmdlaa.PFnFinalize
set_option linter.unusedVariables false
set_option linter.unusedSimpArgs false

theorem info32 : (Try.prog.info? 32).map (·.size) = some 6 := by kernel_rfl
set_option maxHeartbeats 16000000 in
set_option maxRecDepth 100000 in
theorem mappings (W : World) (T : List UInt8) (L : List It) (hT : T = rn L) (hTl : T.length < 4294967296) (hOk : Ok st0 L) (hsep : ∀ x ∈ L.tail, x.c = true ∨ 0 < x.k) (hC : Cs L) (hL : L.length ≤ 1000) :
    Calls Try.prog 8 #[.string (bs T)] W fun e w' => ∃ (v : Value) (d : St), e = .returned (.tuple #[v, .agg #[.int .i64 d.line, .int .i64 d.col, .int .i64 d.src, .int .i64 d.ol, .int .i64 d.oc, .int .i64 d.nm], .bool true]) ∧ w'.ownsRow (W.heap.size + 2) 27 6 v (dec st0 L).length ((dec st0 L).flatMap mcells) ∧ Below W.heap.size W w' := by
  have hsz : (bs T).size = T.length := bs_size T
  obtain ⟨i3, hi3, hz0, hz1, hz2⟩ := info_parts info3
  obtain ⟨i27, hi27, hz70, hz71, hz72⟩ := info_parts info27
  have HT := Lib.hid hT
  have HOK := Lib.hid hOk
  have HSEP := Lib.hid hsep
  have HC := Lib.hid hC
  clear hT hOk hsep hC
  go_enter Try.func8, Try.ntmps8
  go_wp2_with (fail)
  have hA0 := heap_alloc_new W (.cells (scells st0) 32)
  have hA1 := Below.heap_alloc (W.alloc (.cells (scells st0) 32)) (.cells (scells st0) 32) W.heap.size (by simp)
  have hA2 := heap_alloc_new (W.alloc (.cells (scells st0) 32)) (.cells (scells st0) 32)
  have hA3 : ((W.alloc (.cells (scells st0) 32)).alloc (.cells (scells st0) 32)).heap.size = W.heap.size + 2 := by simp
  have hA4 := ((Below.refl W.heap.size W).alloc (Nat.le_refl _) (.cells (scells st0) 32)).alloc (by simp) (.cells (scells st0) 32)
  have hA5 : (W.alloc (.cells (scells st0) 32)).heap.size = W.heap.size + 1 := by simp
  rw [hA5] at hA2
  have HM := Lib.hid (show Mr W ((W.alloc (.cells (scells st0) 32)).alloc (.cells (scells st0) 32)) T (dec st0 L) (.slice none 0 0) 0 st0 L [] from
    ⟨hA2, hA1.trans hA0, World.ownsRow_nil _ _ _ _, hA4, by rw [hA3]; exact Nat.le_refl _, by rw [List.drop_zero]; exact HT.out, Nat.zero_le _, rfl, by constructor <;> (unfold U31 st0; decide), HOK.out, HSEP.out, HC.out, by simpa using hL⟩)
  clear hA0 hA1 hA2 hA3 hA4 hA5
  change Code.wp _ _ _ _ ((W.alloc (.cells (scells st0) 32)).alloc (.cells (scells st0) 32))
  generalize (W.alloc (.cells (scells st0) 32)).alloc (.cells (scells st0) 32) = WB at HM ⊢
  go_loopw [5, 7] (fun v5 v7 wr => ∃ (s : St) (l : List It) (i : Nat) (ms : List Mp), v7 = .int .i64 (i : Int) ∧ Hid (Mr W wr T (dec st0 L) v5 i s l ms)) (fun _ v7 _ => T.length - (intOf v7).toNat)
  case atStart => exact ⟨st0, L, 0, [], rfl, HM⟩
  case round =>
    obtain ⟨s, l, i, ms, rfl, HR⟩ := hrel
    clear HM
    by_cases hi : i < T.length
    · have x0 : (0 : Int) ≤ (i : Int) := by omega
      have x1 : (i : Int) < (T.length : Int) := by omega
      have x2 : i < (bs T).size := by omega
      cases l with
      | nil => exact absurd HR.out.dr (drop_ne hi)
      | cons it r =>
        cases hk : it.k with
        | succ k =>
          have hdr := HR.out.dr
          rw [txt_k it k hk r] at hdr
          have hch : ∀ h : i < (bs T).size, (((bs T)[i]'h).toNat : Int) = 59 := char_at hdr
          have c0 : wr.cell? ⟨W.heap.size + 1, 0, none⟩ = some (.int .i64 s.line) := blk_cell HR.out.at6 0
          have f0 : wr.frozen? ⟨W.heap.size + 1, 0, none⟩ = false := blk_frozen HR.out.at6 0
          have hl := HR.out.sf.line
          have wl : wrap64 (s.line + 1) = s.line + 1 := by have := hl.1; have := hl.2; unfold wrap64; omega
          have wi : wrap64 ((i : Int) + 1) = (i : Int) + 1 := wrap_up hi hTl
          have HK := Lib.hid hk
          have HHI := Lib.hid hi
          clear hdr hk hi hl
          go_upto_region 7 with (fail)
          have hB1 := blk_put HR.out.at6 0 (.int .i64 (s.line + 1)) (cs' := #[.int .i64 (s.line + 1), .int .i64 s.col, .int .i64 s.src, .int .i64 s.ol, .int .i64 s.oc, .int .i64 s.nm]) rfl
          have hk1 : ∀ g, g ≠ W.heap.size + 1 → (wr.setCell ⟨W.heap.size + 1, 0, none⟩ (.int .i64 (s.line + 1))).heap[g]? = wr.heap[g]? := fun g hg => Below.heap_setCell wr ⟨W.heap.size + 1, 0, none⟩ _ g hg
          have hs1 : (wr.setCell ⟨W.heap.size + 1, 0, none⟩ (.int .i64 (s.line + 1))).heap.size = wr.heap.size := by simp [World.setCell]
          have ho1 : (wr.setCell ⟨W.heap.size + 1, 0, none⟩ (.int .i64 (s.line + 1))).os = wr.os := rfl
          have ht1 : (wr.setCell ⟨W.heap.size + 1, 0, none⟩ (.int .i64 (s.line + 1))).tape = wr.tape := rfl
          have hu1 : (wr.setCell ⟨W.heap.size + 1, 0, none⟩ (.int .i64 (s.line + 1))).output = wr.output := rfl
          clear c0 f0
          generalize wr.setCell ⟨W.heap.size + 1, 0, none⟩ (.int .i64 (s.line + 1)) = w1 at hB1 hk1 hs1 ho1 ht1 hu1 ⊢
          have c1 : w1.cell? ⟨W.heap.size + 1, 1, none⟩ = some (.int .i64 s.col) := blk_cell hB1 1
          have f1 : w1.frozen? ⟨W.heap.size + 1, 1, none⟩ = false := blk_frozen hB1 1
          have H1 := Lib.hid (⟨hB1, hk1, hs1, ho1, ht1, hu1⟩ : _ ∧ _ ∧ _ ∧ _ ∧ _ ∧ _)
          clear hB1 hk1 hs1 ho1 ht1 hu1
          go_upto_region 8 with (fail)
          obtain ⟨hB1, hk1, hs1, ho1, ht1, hu1⟩ := H1.out
          have HN := Lib.hid (HR.out.semi k HK.out HHI.out (w' := w1.setCell ⟨W.heap.size + 1, 1, none⟩ (.int .i64 0)) (blk_put hB1 1 (.int .i64 0) rfl) (fun g hg => (Below.heap_setCell w1 ⟨W.heap.size + 1, 1, none⟩ _ g hg).trans (hk1 g hg)) (by simp [World.setCell, hs1]) ho1 ht1 hu1)
          have HWI := Lib.hid wi
          clear hB1 hk1 hs1 ho1 ht1 hu1 c1 f1 wl
          generalize w1.setCell ⟨W.heap.size + 1, 1, none⟩ (.int .i64 0) = w2 at HN ⊢
          go_wp2_with (fail)
          go_roundw
          case rel =>
            refine ⟨s.line1, { it with k := k } :: r, i + 1, ms, ?_, HN⟩
            rfl
          case measure =>
            have := HHI.out
            simp only [intOf]
            omega
        | zero =>
          cases hc : it.c with
          | true =>
            have hdr := HR.out.dr
            rw [txt_c it hk hc r] at hdr
            have hch : ∀ h : i < (bs T).size, (((bs T)[i]'h).toNat : Int) = 44 := char_at hdr
            have wi : wrap64 ((i : Int) + 1) = (i : Int) + 1 := wrap_up hi hTl
            have HN := Lib.hid (HR.out.comma hk hc hi)
            have HHI := Lib.hid hi
            have HWI := Lib.hid wi
            clear hdr hk hc hi
            go_wp2_with (fail)
            go_roundw
            case rel =>
              refine ⟨s, { it with c := false } :: r, i + 1, ms, ?_, HN⟩
              rfl
            case measure =>
              have := HHI.out
              simp only [intOf]
              omega
          | false =>
            have hdr := HR.out.dr
            rw [txt_n it hk hc r] at hdr
            obtain ⟨bb, br, hv1, hb59, hb44, _, _⟩ := vlq_first2 it.d
            have hch : ∀ h : i < (bs T).size, (((bs T)[i]'h).toNat : Int) = (bb.toNat : Int) := char_at (T := T) (i := i) (r := br ++ ((nums it).tail.flatMap vlq ++ rn r)) (by rw [hdr]; unfold nums; simp [hv1])
            have HDR := Lib.hid hdr
            have HK := Lib.hid hk
            have HHI := Lib.hid hi
            have HSM := Lib.hid (nums_sm HR.out.ok.2.1)
            clear hdr hk hc hi hv1
            go_wp2_with (fail)
            clear hch hb59 hb44 x0 x1 x2
            go_loopw [7, 8] (fun v7 v8 wq => ∃ (dn td : List Int) (p : Nat), v7 = .int .i64 (p : Int) ∧ Hid (wq.ownsRow wr.heap.size 3 1 v8 dn.length (dn.map (Value.int .i64))) ∧ Hid (dn ++ td = nums it) ∧ Hid (T.drop p = td.flatMap vlq ++ rn r) ∧ Hid (Below wr.heap.size wr wq) ∧ Hid (i ≤ p ∧ p ≤ T.length ∧ (dn = [] ∨ i < p))) (fun v7 _ _ => T.length - (intOf v7).toNat)
            case atStart => exact ⟨[], nums it, i, rfl, Lib.hid (World.ownsRow_nil _ _ _ _), Lib.hid rfl, HDR, Lib.hid (Below.refl _ _), Lib.hid ⟨Nat.le_refl _, Nat.le_of_lt HHI.out, .inl rfl⟩⟩
            case round =>
              obtain ⟨dn, td, p, rfl, HO, HNU, HDP, HB, HPI⟩ := hrel
              obtain ⟨A, cap, rfl⟩ := own_slice HO.out
              cases td with
              | cons n td =>
                obtain ⟨bb, br, hv1, hb59, hb44, hc59, hc44⟩ := vlq_first2 n
                have hdr := HDP.out
                rw [List.flatMap_cons, List.append_assoc] at hdr
                have hch : ∀ h : p < (bs T).size, (((bs T)[p]'h).toNat : Int) = (bb.toNat : Int) := char_at (T := T) (i := p) (r := br ++ (td.flatMap vlq ++ rn r)) (by rw [hdr, hv1]; simp)
                have hp : p < T.length := drop_lt hdr (by simp [vlq_ne])
                have x0 : (0 : Int) ≤ (p : Int) := by omega
                have x1 : (p : Int) < (T.length : Int) := by omega
                have x1b : decide ((p : Int) < (T.length : Int)) = true := decide_eq_true x1
                have x2 : p < (bs T).size := by omega
                have hln := congrArg List.length HNU.out
                rw [List.length_append, List.length_cons] at hln
                have hn5 := (nums_len it).2
                have hd5 : ((dn.length : Int) == 5) = false := beq_eq_false_iff_ne.mpr (by omega)
                have hsm := HSM.out n (by rw [← HNU.out]; simp)
                have HV := Lib.hid (vlqR (bs T) (by omega) n hsm.1 hsm.2 (td.flatMap vlq ++ rn r) p (by simpa [bs] using hdr))
                have HD2 := Lib.hid (drop_app hdr)
                have HDL := Lib.hid (drop_len hdr HPI.out.2.1)
                have HLN := Lib.hid (show dn.length ≤ 4 by omega)
                clear hdr hv1 hln hn5 hsm
                have HHP := Lib.hid hp
                clear hp
                go_wp2_with (fail)
                refine (spec_VLQ.calls 120 (bs T) (p : Int) n ((p + (vlq n).length : Nat) : Int) true wr HV.out).mono ?_
                rintro e w1 ⟨rfl, nd, rfl⟩
                clear hch hb59 hb44 hc59 hc44 x0 x1 x1b x2
                have HO1 := Lib.hid (show (wr.drewN nd).ownsRow _ 3 1 (.slice A dn.length cap) dn.length (dn.map (Value.int .i64)) from HO.out)
                have HB1 := Lib.hid (show Below _ _ (wr.drewN nd) from ⟨HB.out.os, HB.out.tape, HB.out.output, HB.out.size, HB.out.block⟩)
                generalize wr.drewN nd = w1 at HO1 HB1 ⊢
                go_wp2_with (at_builtin; refine wpList_append_own _ rfl (.tmp 66) (.tmp 68) 37 rfl _ 3 i3 (.int .i64 0) 1 8 Try.underlying37 hi3 hz0 hz1 hz2 rfl (by decide) _ dn.length (dn.map (Value.int .i64)) rfl (HO1.out.alloc _) ⟨w1.heap.size, 0, none⟩ 1 1 [.int .i64 n] rfl rfl ?c1 ?c2 ?c3 ?c4 ?c5 ?_)
                case c1 => first | exact fun j u h => news_alloc _ _ _ j u h | exact fun j u h => h | (intro j u h; simpa using h)
                case c2 => first | rfl | (intro u hu; simp only [List.mem_cons, List.not_mem_nil, or_false] at hu; rcases hu with rfl; rfl)
                case c3 => have := HLN.out; unfold maxLen; omega
                case c4 => have := HLN.out; omega
                case c5 => have := HB1.out.size; simp; omega
                intro v' w2 hown3 hgr _
                have hb2 := (HB1.out.alloc HB1.out.size (.cells #[.int .i64 n] 3)).grown hgr (by have := HB1.out.size; simp; omega) (own_base HO1.out)
                have HO4 := Lib.hid hown3
                have HB4 := Lib.hid hb2
                clear hown3 hgr hb2
                go_wp2_with (fail)
                have hvp := List.length_pos_iff.2 (vlq_ne n)
                have hpp := HHP.out
                have hpi := HPI.out
                refine ⟨⟨dn ++ [n], td, p + (vlq n).length, rfl, Lib.hid ?_, Lib.hid ?_, HD2, HB4, Lib.hid ⟨by omega, HDL.out, .inr (by omega)⟩⟩, ?_⟩
                · rw [List.length_append, List.map_append]
                  exact HO4.out
                · rw [← HNU.out]; simp
                · simp only [intOf]
                  omega
              | nil =>
                have hdn : dn = nums it := by rw [← HNU.out]; simp
                subst hdn
                have hdr : T.drop p = rn r := by rw [HDP.out]; simp
                have hn4 := nums_len it
                have hpi := HPI.out
                have hip : i < p := by
                  rcases hpi.2.2 with h | h
                  · rw [h] at hn4; simp at hn4
                  · exact h
                have hend : wr.cell? ⟨0, 0, none⟩ = wr.cell? ⟨0, 0, none⟩ := rfl
                have HDR2 := Lib.hid hdr
                have HIP := Lib.hid (⟨hip, hpi.2.1⟩ : _ ∧ _)
                obtain ⟨g, cap2, hsl, hg1, hg2, hg3, k0, k1, k2, k3, k4⟩ := own_cells HO.out rfl
                cases hsl
                have HGG := Lib.hid (⟨hg1, hg2, hg3⟩ : _ ∧ _ ∧ _)
                have HK4 := Lib.hid k4
                have hbh := behind2 hdr (fun x hx => HR.out.sep x (List.mem_of_mem_head? hx)) HR.out.cs.tail
                have HBH := Lib.hid hbh
                obtain ⟨n, hn⟩ : ∃ n, n = (nums it).length := ⟨_, rfl⟩
                have HNL := Lib.hid hn
                rw [← hn] at hn4 ⊢
                clear hdr hpi hip hend hg1 hg2 hg3 k4 hbh hn
                go_upto_region 12 with (fail)
                go_cut [50] from 35 to 49 (fun v50 wd => v50 = .bool false ∧ wd = wr)
                case first =>
                  rcases HBH.out with h | ⟨b, tt, h, hb⟩
                  · have q1 := dec_ge h
                    have q2 : decide (p < T.length) = false := decide_eq_false (by omega)
                    clear h
                    go_wp2_with (fail)
                    go_meet
                    case rel => exact ⟨rfl, rfl⟩
                  · have hp : p < T.length := drop_lt h (by simp)
                    have x0 : (0 : Int) ≤ (p : Int) := by omega
                    have x1 : (p : Int) < (T.length : Int) := by omega
                    have x1b : decide ((p : Int) < (T.length : Int)) = true := decide_eq_true x1
                    have x2 : p < (bs T).size := by omega
                    rcases hb with rfl | rfl
                    · have hch : ∀ h : p < (bs T).size, (((bs T)[p]'h).toNat : Int) = 44 := char_at h
                      clear h hp
                      go_wp2_with (fail)
                      go_meet
                      case rel => exact ⟨rfl, rfl⟩
                    · have hch : ∀ h : p < (bs T).size, (((bs T)[p]'h).toNat : Int) = 59 := char_at h
                      clear h hp
                      go_wp2_with (fail)
                      go_meet
                      case rel => exact ⟨rfl, rfl⟩
                case rest =>
                obtain ⟨rfl, rfl⟩ := hcut
                have h6 := (HB.out.block _ (blk_lt HR.out.at6)).trans HR.out.at6
                have h0 := (HB.out.block _ (blk_lt HR.out.res)).trans HR.out.res
                have H6 := Lib.hid h6
                have H0 := Lib.hid h0
                have HWR := Lib.hid (sf_wraps HR.out.sf HR.out.ok.1 HK.out)
                have c1 : wc.cell? ⟨W.heap.size + 1, 1, none⟩ = some (.int .i64 s.col) := blk_cell h6 1
                have f1 : wc.frozen? ⟨W.heap.size + 1, 1, none⟩ = false := blk_frozen h6 1
                have wc1 := HWR.out.1
                have n0 : (0 : Int) < (n : Int) := by omega
                have n1 : (1 : Int) < (n : Int) := by omega
                have n2 : (2 : Int) < (n : Int) := by omega
                have n3 : (3 : Int) < (n : Int) := by omega
                have m1 : ((n : Int) == 1) = false := beq_eq_false_iff_ne.mpr (by omega)
                have m4 : decide ((n : Int) < 4) = false := decide_eq_false (by omega)
                clear h6 h0
                go_upto_region 17 with (fail)
                go_cut [] from 71 to 77 (fun wd => Hid (wd.heap[W.heap.size + 1]? = some (.cells #[.int .i64 s.line, .int .i64 (s.col + it.d), .int .i64 s.src, .int .i64 s.ol, .int .i64 s.oc, .int .i64 s.nm] 32 (0, 0))) ∧ Hid (Up (W.heap.size + 1) wc wd))
                case first =>
                  clear n1 n2 n3 m1 m4 k1 k2 k3
                  go_region
                  all_goals
                    go_wp2_with (fail)
                    go_meet
                    case rel => exact ⟨Lib.hid (blk_put H6.out 1 (.int .i64 (s.col + it.d)) rfl), Lib.hid (by repeat (first | (with_reducible refine Up.put ?_ _ _) | (with_reducible apply Up.drew) | (with_reducible exact Up.refl _ _)))⟩
                case rest =>
                obtain ⟨H61, HU1⟩ := hcut
                have hw1 : ∀ j u, wr.cell? ⟨g, j, none⟩ = some u → True := fun _ _ _ => trivial
                clear hw1
                have y1 := (cell_of' (HU1.out.other g (by have := HGG.out.1; have := HR.out.sz; omega))).trans k1
                have y2 := (cell_of' (HU1.out.other g (by have := HGG.out.1; have := HR.out.sz; omega))).trans k2
                have y3 := (cell_of' (HU1.out.other g (by have := HGG.out.1; have := HR.out.sz; omega))).trans k3
                have c2 : wc.cell? ⟨W.heap.size + 1, 2, none⟩ = some (.int .i64 s.src) := blk_cell H61.out 2
                have f2 : wc.frozen? ⟨W.heap.size + 1, 2, none⟩ = false := blk_frozen H61.out 2
                have c3 : wc.cell? ⟨W.heap.size + 1, 3, none⟩ = some (.int .i64 s.ol) := blk_cell H61.out 3
                have f3 : wc.frozen? ⟨W.heap.size + 1, 3, none⟩ = false := blk_frozen H61.out 3
                have c4 : wc.cell? ⟨W.heap.size + 1, 4, none⟩ = some (.int .i64 s.oc) := blk_cell H61.out 4
                have f4 : wc.frozen? ⟨W.heap.size + 1, 4, none⟩ = false := blk_frozen H61.out 4
                have wc2 := HWR.out.2.1
                have wc3 := HWR.out.2.2.1
                have wc4 := HWR.out.2.2.2.1
                clear c1 f1 k0 k1 k2 k3 wc1
                go_upto_region 21 with (fail)
                go_cut [] from 85 to 105 (fun wd => Hid (wd.heap[W.heap.size + 1]? = some (.cells #[.int .i64 s.line, .int .i64 (s.col + it.d), .int .i64 (s.src + it.a), .int .i64 (s.ol + it.b), .int .i64 (s.oc + it.e), .int .i64 s.nm] 32 (0, 0))) ∧ Hid (Up (W.heap.size + 1) wc wd))
                case first =>
                  have hgg : g ≠ W.heap.size + 1 := by have := HGG.out.1; have := HR.out.sz; omega
                  have hgh : W.heap.size + 1 ≠ g := fun e => hgg e.symm
                  clear n0 m1 m4
                  go_region
                  all_goals
                    go_wp2_with (fail)
                    go_meet
                    case rel => exact ⟨Lib.hid (blk_put (blk_put (blk_put H61.out 2 (.int .i64 (s.src + it.a)) rfl) 3 (.int .i64 (s.ol + it.b)) rfl) 4 (.int .i64 (s.oc + it.e)) rfl), Lib.hid (by repeat (first | (with_reducible refine Up.put ?_ _ _) | (with_reducible apply Up.drew) | (with_reducible exact Up.refl _ _)))⟩
                case rest =>
                obtain ⟨H62, HU2⟩ := hcut
                clear y1 y2 y3 c2 f2 c3 f3 c4 f4 wc2 wc3 wc4
                go_upto_if 108 with (fail)
                go_cut [12] from 109 to 117 (fun v12 wd => v12 = .int .i64 (outD (stepD s it) it).nm ∧ Hid (wd.heap[W.heap.size + 1]? = some (.cells (scells (stepD s it)) 32 (0, 0))) ∧ Hid (Up (W.heap.size + 1) wc wd))
                case first =>
                  cases hnm : it.nm with
                  | none =>
                    have hn4 : n = 4 := by rw [HNL.out]; unfold nums; rw [hnm]; rfl
                    subst hn4
                    have HNM := Lib.hid hnm
                    clear n0 n1 n2 n3 m1 m4 hnm
                    go_wp2_with (fail)
                    go_meet
                    case rel =>
                      refine ⟨?_, Lib.hid ?_, Lib.hid (Up.refl _ _)⟩
                      · unfold outD; rw [HNM.out]
                      · rw [step_flat s it HK.out, HNM.out]
                        exact H62.out
                  | some q =>
                    obtain ⟨hn5, k4⟩ := HK4.out q hnm
                    have hn5 : n = 5 := by rw [HNL.out]; exact hn5
                    subst hn5
                    have hgg : g ≠ W.heap.size + 1 := by have := HGG.out.1; have := HR.out.sz; omega
                    have y4 := (cell_of' (HU2.out.other g hgg)).trans ((cell_of' (HU1.out.other g hgg)).trans k4)
                    have c5 : wc.cell? ⟨W.heap.size + 1, 5, none⟩ = some (.int .i64 s.nm) := blk_cell H62.out 5
                    have f5 : wc.frozen? ⟨W.heap.size + 1, 5, none⟩ = false := blk_frozen H62.out 5
                    have wc5 := HWR.out.2.2.2.2 q hnm
                    have HNM := Lib.hid hnm
                    clear n0 n1 n2 n3 m1 m4 hnm k4 hgg
                    go_wp2_with (fail)
                    go_region
                    all_goals
                      go_wp2_with (fail)
                      go_meet
                      case rel =>
                        refine ⟨?_, Lib.hid ?_, Lib.hid (by repeat (first | (with_reducible refine Up.put ?_ _ _) | (with_reducible apply Up.drew) | (with_reducible exact Up.refl _ _)))⟩
                        · unfold outD; rw [step_flat s it HK.out, HNM.out]
                        · rw [step_flat s it HK.out, HNM.out]
                          exact blk_put H62.out 5 (.int .i64 (s.nm + q)) rfl
                case rest =>
                obtain ⟨rfl, H63, HU3⟩ := hcut
                have hsf := HR.out.ok.1
                have c0 : wc.cell? ⟨W.heap.size + 1, 0, none⟩ = some (.int .i64 (stepD s it).line) := blk_cell H63.out 0
                have c1 : wc.cell? ⟨W.heap.size + 1, 1, none⟩ = some (.int .i64 (stepD s it).col) := blk_cell H63.out 1
                have c2 : wc.cell? ⟨W.heap.size + 1, 2, none⟩ = some (.int .i64 (stepD s it).src) := blk_cell H63.out 2
                have c3 : wc.cell? ⟨W.heap.size + 1, 3, none⟩ = some (.int .i64 (stepD s it).ol) := blk_cell H63.out 3
                have c4 : wc.cell? ⟨W.heap.size + 1, 4, none⟩ = some (.int .i64 (stepD s it).oc) := blk_cell H63.out 4
                have c5 : wc.cell? ⟨W.heap.size + 1, 5, none⟩ = some (.int .i64 (stepD s it).nm) := blk_cell H63.out 5
                have hrow := HU3.out.own (HU2.out.own (HU1.out.own (own_below HB.out HR.out.row (Nat.le_refl _)) (by omega)) (by omega)) (by omega)
                have hres := (HU3.out.other W.heap.size (by omega)).trans ((HU2.out.other W.heap.size (by omega)).trans ((HU1.out.other W.heap.size (by omega)).trans H0.out))
                have hbl := (((HR.out.bl.trans (HB.out.mono HR.out.bl.size)).trans (HU1.out.below (by omega))).trans (HU2.out.below (by omega))).trans (HU3.out.below (b := W.heap.size + 1) (by omega))
                have HSF := Lib.hid hsf
                have HROW := Lib.hid hrow
                have HRES := Lib.hid hres
                have HBL := Lib.hid hbl
                clear hsf hrow hres hbl n0 n1 n2 n3 m1 m4
                go_wp2_with (fail)
                refine (spec_mapFits.calls 7 _ _ _ _ _ _ true wc (fits6 _ _ _ _ _ _ HSF.out.line HSF.out.col HSF.out.src HSF.out.ol HSF.out.oc HSF.out.nm)).mono ?_
                rintro e w5 ⟨rfl, hb5⟩
                clear c0 c1 c2 c3 c4 c5
                have h65 := (hb5.block _ (blk_lt H63.out)).trans H63.out
                have hs5 : W.heap.size + 2 ≤ wc.heap.size := by have := HROW.out; have := blk_lt H63.out; have := HBL.out.size; omega
                have c0 : w5.cell? ⟨W.heap.size + 1, 0, none⟩ = some (.int .i64 (stepD s it).line) := blk_cell h65 0
                have c1 : w5.cell? ⟨W.heap.size + 1, 1, none⟩ = some (.int .i64 (stepD s it).col) := blk_cell h65 1
                have c2 : w5.cell? ⟨W.heap.size + 1, 2, none⟩ = some (.int .i64 (stepD s it).src) := blk_cell h65 2
                have c3 : w5.cell? ⟨W.heap.size + 1, 3, none⟩ = some (.int .i64 (stepD s it).ol) := blk_cell h65 3
                have c4 : w5.cell? ⟨W.heap.size + 1, 4, none⟩ = some (.int .i64 (stepD s it).oc) := blk_cell h65 4
                have HRES5 := Lib.hid ((hb5.block _ (blk_lt HRES.out)).trans HRES.out)
                have HROW5 := Lib.hid (own_below hb5 HROW.out (Nat.le_refl _))
                have HBL5 := Lib.hid (HBL.out.trans (hb5.mono HBL.out.size))
                have H65 := Lib.hid h65
                have HS5 := Lib.hid (Nat.le_trans hs5 hb5.size)
                clear h65 hb5 hs5
                go_wp2_with (at_builtin; refine wpList_append_own _ rfl (.tmp 122) (.tmp 135) 22 rfl (W.heap.size + 2) 27 i27 (.agg #[.int .i64 0, .int .i64 0, .int .i64 0, .int .i64 0, .int .i64 0, .int .i64 0]) 6 48 Try.underlying22 hi27 hz70 hz71 hz72 rfl (by decide) _ ms.length (ms.flatMap mcells) rfl (HROW5.out.alloc _) ⟨w5.heap.size, 0, none⟩ 1 1 (mcells (outD (stepD s it) it)) rfl rfl ?c1 ?c2 ?c3 ?c4 ?c5 ?_)
                case c1 => first | exact fun j u h => news_alloc _ _ _ j u h | exact fun j u h => h | (intro j u h; simpa using h)
                case c2 => first | rfl | (intro u hu; simp only [mcells, List.mem_cons, List.not_mem_nil, or_false] at hu; rcases hu with rfl | rfl | rfl | rfl | rfl | rfl <;> rfl)
                case c3 => have := HR.out.ln; unfold maxLen; omega
                case c4 => have := HR.out.ln; omega
                case c5 => have := HS5.out; simp; omega
                intro v' w6 hown6 hgr _
                have hs5 := HS5.out
                have hne : ∀ q, q < W.heap.size + 2 → some q ≠ u5.ownBlock := fun q hq e => by have := (HROW5.out.lt q e.symm).1; omega
                have hb6 := (HBL5.out.alloc HBL5.out.size (.cells (mcells (outD (stepD s it) it)).toArray 27)).grown hgr (by have := HBL5.out.size; simp; omega) (fun k hk => by have := (HROW5.out.lt k hk).1; omega)
                have h66 := (hgr.block (W.heap.size + 1) (by simp; omega) (hne _ (by omega))).trans ((Below.heap_alloc w5 _ _ (by omega)).trans H65.out)
                have h06 := (hgr.block W.heap.size (by simp; omega) (hne _ (by omega))).trans ((Below.heap_alloc w5 _ _ (by omega)).trans HRES5.out)
                have hz6 : W.heap.size + 2 ≤ w6.heap.size := by have := hgr.size; simp at this; omega
                have HN := Lib.hid (HR.out.seg HK.out HDR2.out HIP.out.2 h66 h06 hown6 hb6 hz6)
                clear hs5 hne hb6 h66 h06 hz6 hown6 hgr c0 c1 c2 c3 c4
                go_wp2_with (fail)
                go_roundw
                case rel => exact ⟨stepD s it, r, p, _, rfl, HN⟩
                case measure =>
                  have := HIP.out
                  have := HHI.out
                  simp only [intOf]
                  omega
    · obtain rfl : i = T.length := by have := HR.out.le; omega
      have hi' : ¬ ((T.length : Int) < (T.length : Int)) := by omega
      obtain rfl : l = [] := by
        cases l with
        | nil => rfl
        | cons it r =>
          exfalso
          have hd := HR.out.dr
          rw [List.drop_length, rn_cons] at hd
          have hl := congrArg List.length hd
          simp only [It.txt, List.length_append, List.length_nil] at hl
          have := List.length_pos_iff.2 (vlq_ne it.d)
          omega
      have hsf := HR.out.sf
      have c0 : wr.cell? ⟨W.heap.size + 1, 0, none⟩ = some (.int .i64 s.line) := blk_cell HR.out.at6 0
      have c1 : wr.cell? ⟨W.heap.size + 1, 1, none⟩ = some (.int .i64 s.col) := blk_cell HR.out.at6 1
      have c2 : wr.cell? ⟨W.heap.size + 1, 2, none⟩ = some (.int .i64 s.src) := blk_cell HR.out.at6 2
      have c3 : wr.cell? ⟨W.heap.size + 1, 3, none⟩ = some (.int .i64 s.ol) := blk_cell HR.out.at6 3
      have c4 : wr.cell? ⟨W.heap.size + 1, 4, none⟩ = some (.int .i64 s.oc) := blk_cell HR.out.at6 4
      have c5 : wr.cell? ⟨W.heap.size + 1, 5, none⟩ = some (.int .i64 s.nm) := blk_cell HR.out.at6 5
      have HSF := Lib.hid hsf
      have h6 := HR.out.at6
      have h0 := HR.out.res
      have r0 : wr.cell? ⟨W.heap.size, 0, none⟩ = some (.int .i64 0) := blk_cell h0 0
      have r1 : wr.cell? ⟨W.heap.size, 1, none⟩ = some (.int .i64 0) := blk_cell h0 1
      have r2 : wr.cell? ⟨W.heap.size, 2, none⟩ = some (.int .i64 0) := blk_cell h0 2
      have r3 : wr.cell? ⟨W.heap.size, 3, none⟩ = some (.int .i64 0) := blk_cell h0 3
      have r4 : wr.cell? ⟨W.heap.size, 4, none⟩ = some (.int .i64 0) := blk_cell h0 4
      have r5 : wr.cell? ⟨W.heap.size, 5, none⟩ = some (.int .i64 0) := blk_cell h0 5
      have f0 : wr.frozen? ⟨W.heap.size, 0, none⟩ = false := blk_frozen h0 0
      have f1 : wr.frozen? ⟨W.heap.size, 1, none⟩ = false := blk_frozen h0 1
      have f2 : wr.frozen? ⟨W.heap.size, 2, none⟩ = false := blk_frozen h0 2
      have f3 : wr.frozen? ⟨W.heap.size, 3, none⟩ = false := blk_frozen h0 3
      have f4 : wr.frozen? ⟨W.heap.size, 4, none⟩ = false := blk_frozen h0 4
      have f5 : wr.frozen? ⟨W.heap.size, 5, none⟩ = false := blk_frozen h0 5
      have H6 := Lib.hid h6
      have H0 := Lib.hid h0
      have HROW := Lib.hid HR.out.row
      have HBL := Lib.hid HR.out.bl
      have HFULL := Lib.hid (show ms = dec st0 L by have := HR.out.full; simpa [dec] using this)
      clear hsf h6 h0 hi
      go_wp2_with (fail)
      go_cut [2, 4] from 137 to 140 (fun v2 v4 wd => v2 = u5 ∧ v4 = .bool true ∧ Hid (∃ d : St, wd.heap[W.heap.size]? = some (.cells #[.int .i64 d.line, .int .i64 d.col, .int .i64 d.src, .int .i64 d.ol, .int .i64 d.oc, .int .i64 d.nm] 32 (0, 0))) ∧ Hid (wd.ownsRow (W.heap.size + 2) 27 6 u5 ms.length (ms.flatMap mcells)) ∧ Hid (Below W.heap.size W wd))
      case first =>
        go_region_with (go_at_call 18; refine (spec_mapFits.calls 7 _ _ _ _ _ _ true _ (fits6 _ _ _ _ _ _ HSF.out.line HSF.out.col HSF.out.src HSF.out.ol HSF.out.oc HSF.out.nm)).mono ?_; rintro e w5 ⟨rfl, hb5x⟩; have hb5 : Below wr.heap.size wr w5 := ⟨hb5x.os, hb5x.tape, hb5x.output, hb5x.size, hb5x.block⟩; clear hb5x; have h65 := (hb5.block (W.heap.size + 1) (by exact blk_lt H6.out)).trans H6.out; have h05 := (hb5.block W.heap.size (by exact blk_lt H0.out)).trans H0.out; have HR5 := Lib.hid (own_below hb5 HROW.out (Nat.le_refl _)); have HB5 := Lib.hid (HBL.out.trans (hb5.mono HBL.out.size)); have H05 := Lib.hid h05; clear hb5; have e0 : w5.cell? ⟨W.heap.size + 1, 0, none⟩ = some (.int .i64 s.line) := blk_cell h65 0; have e1 : w5.cell? ⟨W.heap.size + 1, 1, none⟩ = some (.int .i64 s.col) := blk_cell h65 1; have e2 : w5.cell? ⟨W.heap.size + 1, 2, none⟩ = some (.int .i64 s.src) := blk_cell h65 2; have e3 : w5.cell? ⟨W.heap.size + 1, 3, none⟩ = some (.int .i64 s.ol) := blk_cell h65 3; have e4 : w5.cell? ⟨W.heap.size + 1, 4, none⟩ = some (.int .i64 s.oc) := blk_cell h65 4; have e5 : w5.cell? ⟨W.heap.size + 1, 5, none⟩ = some (.int .i64 s.nm) := blk_cell h65 5; have q0 : w5.cell? ⟨W.heap.size, 0, none⟩ = some (.int .i64 0) := blk_cell h05 0; have q1 : w5.cell? ⟨W.heap.size, 1, none⟩ = some (.int .i64 0) := blk_cell h05 1; have q2 : w5.cell? ⟨W.heap.size, 2, none⟩ = some (.int .i64 0) := blk_cell h05 2; have q3 : w5.cell? ⟨W.heap.size, 3, none⟩ = some (.int .i64 0) := blk_cell h05 3; have q4 : w5.cell? ⟨W.heap.size, 4, none⟩ = some (.int .i64 0) := blk_cell h05 4; have q5 : w5.cell? ⟨W.heap.size, 5, none⟩ = some (.int .i64 0) := blk_cell h05 5; have g0 : w5.frozen? ⟨W.heap.size, 0, none⟩ = false := blk_frozen h05 0; have g1 : w5.frozen? ⟨W.heap.size, 1, none⟩ = false := blk_frozen h05 1; have g2 : w5.frozen? ⟨W.heap.size, 2, none⟩ = false := blk_frozen h05 2; have g3 : w5.frozen? ⟨W.heap.size, 3, none⟩ = false := blk_frozen h05 3; have g4 : w5.frozen? ⟨W.heap.size, 4, none⟩ = false := blk_frozen h05 4; have g5 : w5.frozen? ⟨W.heap.size, 5, none⟩ = false := blk_frozen h05 5; clear h65 h05)
        all_goals
          (try change Exit.then _ _ Exit.normal (Act.put _ (some 4) _) _)
          (try simp only [Exit.then, Act.put, List.setIfInBounds_toArray, List.set_cons_zero, List.set_cons_succ])
          go_wp2_with (fail)
          go_meet
          case rel =>
            refine ⟨rfl, rfl, Lib.hid ⟨s, ?_⟩, Lib.hid (Up.own (b := W.heap.size) (w := w5) ?_ HR5.out (by omega)), Lib.hid (HB5.out.trans (Up.below (b := W.heap.size) (w := w5) ?_ (Nat.le_refl _)))⟩
            · (with_reducible repeat (refine blk_drew ?_))
              refine blk_put (cs := #[.int .i64 s.line, .int .i64 s.col, .int .i64 s.src, .int .i64 s.ol, .int .i64 s.oc, .int .i64 0]) ?_ 5 _ rfl
              (with_reducible repeat (refine blk_drew ?_))
              refine blk_put (cs := #[.int .i64 s.line, .int .i64 s.col, .int .i64 s.src, .int .i64 s.ol, .int .i64 0, .int .i64 0]) ?_ 4 _ rfl
              (with_reducible repeat (refine blk_drew ?_))
              refine blk_put (cs := #[.int .i64 s.line, .int .i64 s.col, .int .i64 s.src, .int .i64 0, .int .i64 0, .int .i64 0]) ?_ 3 _ rfl
              (with_reducible repeat (refine blk_drew ?_))
              refine blk_put (cs := #[.int .i64 s.line, .int .i64 s.col, .int .i64 0, .int .i64 0, .int .i64 0, .int .i64 0]) ?_ 2 _ rfl
              (with_reducible repeat (refine blk_drew ?_))
              refine blk_put (cs := #[.int .i64 s.line, .int .i64 0, .int .i64 0, .int .i64 0, .int .i64 0, .int .i64 0]) ?_ 1 _ rfl
              (with_reducible repeat (refine blk_drew ?_))
              refine blk_put (cs := #[.int .i64 0, .int .i64 0, .int .i64 0, .int .i64 0, .int .i64 0, .int .i64 0]) ?_ 0 _ rfl
              (with_reducible repeat (refine blk_drew ?_))
              exact H05.out
            · repeat (first | (with_reducible refine Up.put ?_ _ _) | (with_reducible apply Up.drew) | (with_reducible exact Up.refl _ _))
            · repeat (first | (with_reducible refine Up.put ?_ _ _) | (with_reducible apply Up.drew) | (with_reducible exact Up.refl _ _))
      case rest =>
        obtain ⟨rfl, rfl, HD, HR6, HB6⟩ := hcut
        obtain ⟨d, hd⟩ := HD.out
        clear c0 c1 c2 c3 c4 c5 r0 r1 r2 r3 r4 r5 f0 f1 f2 f3 f4 f5
        go_wp2_with (fail)
        exact bodyPost_ret (results_list (rs := [.tmp 2, .cell 3 32, .tmp 4]) rfl (by simp) (.tmp (.cell W.heap.size 32 _ (0, 0) _ rfl hd Try.underlying32 rfl info32 (.tmp .nil)))) rfl ⟨_, d, rfl, by rw [← HFULL.out]; exact HR6.out, HB6.out⟩
end Go.Proofs.Ytdhaifcjhmmdlaa.fnFinalize
