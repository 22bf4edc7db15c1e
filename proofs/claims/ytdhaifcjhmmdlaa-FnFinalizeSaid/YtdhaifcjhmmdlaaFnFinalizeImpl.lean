/-
  FnFinalize: impl.FinalizeMap lays the moved items between prefix and suffix.
  Conditions: one shift or more; numbers of 31 bits; fewer than 2^32 bytes.
-/
import Derived.Test.YtdhaifcjhmmdlaaFnFinalizeCalm
namespace Go.Proofs.Ytdhaifcjhmmdlaa.fnFinalize
open Go.RowKit Go.Proofs.YtdhaifcjhmmdlaaW.PrintWords Go.Proofs.YtdhaifcjhmmdlaaW.PrintLast Go.Proofs.YtdhaifcjhmmdlaaW.PrintMore Go.Proofs.Ytdhaifcjhmmdlaa.PFnFinalize
set_option linter.unusedVariables false
set_option linter.unusedSimpArgs false

theorem bw_rm (W : World) (P : List UInt8) : Rm (Lib.bytesWorld W 5 (bs P)) W.heap.size (grownCap W P.length 0 5) P := by
  have hn := Lib.bytesWorld_at_new W 5 (bs P)
  have hge := grownCap_ge W P.length 0 5
  have hsz : (Lib.bytesCells W 5 (bs P)).size = grownCap W P.length 0 5 := by
    unfold Lib.bytesCells
    rw [Array.size_append, Array.size_map, Array.size_replicate, bs_size]
    have : (bs P).data.size = P.length := bs_size P
    omega
  refine ⟨fun i hi => ?_, hge, fun j hj => ?_, fun j hj => ?_⟩
  · rw [Lib.bytesWorld_cell W 5 (bs P) i (by rw [bs_size]; exact hi)]
    simp [bs, bval, List.getD, hi]
  · unfold World.cell?
    rw [hn]
    simp
    omega
  · rw [hsz] at hn
    unfold World.frozen?
    rw [hn]
    simp
    omega
theorem bw_old (W : World) (s : ByteArray) (g : Nat) (hg : g < W.heap.size) : (Lib.bytesWorld W 5 s).heap[g]? = W.heap[g]? := Lib.bytesWorld_at_old W 5 s g hg
def shc (s : Sh) : List Value := [.int .i64 s.line, .int .i64 s.col, .int .i64 s.aline, .int .i64 s.acol]
theorem sl_own {W : World} {base ee N : Nat} {v : Value} {n : Nat} {SH : List Sh} (h : W.ownsRow base ee 4 v n (SH.flatMap shc)) (hn : n = SH.length) (h0 : SH ≠ []) (hN : W.heap.size ≤ N) : Sl W N v SH := by
  subst hn
  have h0' := h
  rcases h.2 with ⟨rfl, hz⟩ | ⟨g, cap, cur, rfl, hb, hg, hc, _, hcs, ht⟩
  · exact absurd (List.eq_nil_of_length_eq_zero hz) h0
  · refine ⟨g, 0, cap, rfl, hc, Nat.lt_of_lt_of_le (blk_lt hg) hN, fun i hi => ?_⟩
    have key : ∀ k (hk : k < 4), W.cell? ⟨g, 0 + i * 4 + k, none⟩ = (shc SH[i])[k]? := by
      intro k hk
      have hj : i * 4 + k < SH.length * 4 := by omega
      rw [Nat.zero_add, h0'.cellAt _ hj]
      have hlen : ∀ x ∈ SH, (shc x).length = 4 := fun _ _ => rfl
      clear h h0' ht hcs hc hg hb h0 hj hN
      induction SH generalizing i with
      | nil => simp at hi
      | cons x r ih =>
        cases i with
        | zero =>
          rw [List.flatMap_cons, List.getElem?_append_left (by rw [hlen x (by simp)]; omega)]
          simp
        | succ i =>
          rw [List.flatMap_cons, List.getElem?_append_right (by rw [hlen x (by simp)]; omega), hlen x (by simp)]
          have := ih i (by simpa using hi) (fun y hy => hlen y (List.mem_cons_of_mem _ hy))
          rw [show (i + 1) * 4 + k - 4 = i * 4 + k by omega, this]
          simp
    exact ⟨key 0 (by omega), key 1 (by omega), key 2 (by omega), key 3 (by omega)⟩
theorem tlF_one (s : Sh) : ∀ (l : List It) (f : Fs), f.sh = [s] → tlF f l = tl l
  | [], _, _ => rfl
  | i :: r, f, h => by
    have hf := fin_one s (i :: r) f h
    have h1 : f.turn i :: fin (f.step i) r = i :: r := hf
    have h2 : f.turn i = i := (List.cons.inj h1).1
    have h3 : fin (f.step i) r = r := (List.cons.inj h1).2
    show txtN (f.turn i) ++ rn (fin (f.step i) r) = txtN i ++ rn r
    rw [h2, h3]
theorem own_slice_any {w : World} {base ee sz : Nat} {v : Value} {n : Nat} {xs : List Value} (h : w.ownsRow base ee sz v n xs) : ∃ A cap, v = .slice A n cap := by
  rcases h.2 with ⟨rfl, rfl⟩ | ⟨g, cap, cur, rfl, _⟩
  · exact ⟨none, 0, rfl⟩
  · exact ⟨_, cap, rfl⟩
theorem bw_keep {W : World} {g cap : Nat} {P : List UInt8} (h : Rm W g cap P) (hg : g < W.heap.size) (s : ByteArray) : Rm (Lib.bytesWorld W 5 s) g cap P :=
  ⟨fun i hi => (cell_of' (bw_old W s g hg)).trans (h.cells i hi), h.le, fun j hj => by rw [cell_of' (bw_old W s g hg)]; exact h.there j hj, fun j hj => (World.frozen?_of_block (bw_old W s g hg)).trans (h.thaw j hj)⟩
theorem three (W : World) (P T S : List UInt8) :
    Rm (Lib.bytesWorld (Lib.bytesWorld (Lib.bytesWorld W 5 (bs P)) 5 (bs T)) 5 (bs S)) W.heap.size (grownCap W P.length 0 5) P ∧
    Rm (Lib.bytesWorld (Lib.bytesWorld (Lib.bytesWorld W 5 (bs P)) 5 (bs T)) 5 (bs S)) (W.heap.size + 1) (grownCap (Lib.bytesWorld W 5 (bs P)) T.length 0 5) T ∧
    Rm (Lib.bytesWorld (Lib.bytesWorld (Lib.bytesWorld W 5 (bs P)) 5 (bs T)) 5 (bs S)) (W.heap.size + 1 + 1) (grownCap (Lib.bytesWorld (Lib.bytesWorld W 5 (bs P)) 5 (bs T)) S.length 0 5) S ∧
    Below W.heap.size W (Lib.bytesWorld (Lib.bytesWorld (Lib.bytesWorld W 5 (bs P)) 5 (bs T)) 5 (bs S)) ∧
    (Lib.bytesWorld (Lib.bytesWorld (Lib.bytesWorld W 5 (bs P)) 5 (bs T)) 5 (bs S)).heap.size = W.heap.size + 1 + 1 + 1 := by
  have s1 := Lib.bytesWorld_size W 5 (bs P)
  have s2 := Lib.bytesWorld_size (Lib.bytesWorld W 5 (bs P)) 5 (bs T)
  have s3 := Lib.bytesWorld_size (Lib.bytesWorld (Lib.bytesWorld W 5 (bs P)) 5 (bs T)) 5 (bs S)
  have r1 := bw_rm W P
  have r2 := bw_rm (Lib.bytesWorld W 5 (bs P)) T
  have r3 := bw_rm (Lib.bytesWorld (Lib.bytesWorld W 5 (bs P)) 5 (bs T)) S
  rw [s1] at s2 r2
  rw [s2] at s3 r3
  refine ⟨bw_keep (bw_keep r1 (by omega) _) (by omega) _, bw_keep r2 (by omega) _, r3, ?_, s3⟩
  exact ((bw_below W 5 (bs P)).trans ((bw_below _ 5 (bs T)).mono (by omega))).trans ((bw_below _ 5 (bs S)).mono (by omega))
theorem info46 : (Try.prog.info? 46).map (fun i => (i.zero, i.size, i.bytes)) = some (some (.agg #[.int .i64 0, .int .i64 0, .int .i64 0, .int .i64 0]), 4, 32) := by kernel_rfl
set_option maxHeartbeats 8000000 in
set_option maxRecDepth 100000 in
theorem finalizeMap (W : World) (vsh : Value) (P T S : List UInt8) (SH : List Sh) (l : List It) (hsh : Sl W W.heap.size vsh SH) (h0 : SH ≠ []) (hTg : ∀ b ∈ T, Lg b)
    (hT : T = tl l) (hC : Cs l) (hCn : ∀ x ∈ l.tail, x.c = true ∨ 0 < x.k) (hR : Rg l) (hS : Ss SH) (hF : (P ++ tlF ⟨0, 0, 0, SH⟩ l ++ S).length < 4294967296) (hTl : T.length < 4294967296) (hL : l.length ≤ 1000) (hSl : SH.length ≤ 1000) :
    Calls Try.prog 6 #[.string (bs P), .string (bs T), .string (bs S), vsh] W fun e w' => e = .returned (.tuple #[.string (bs (P ++ tlF ⟨0, 0, 0, SH⟩ l ++ S)), .bool true]) ∧ Below W.heap.size W w' := by
  obtain ⟨i46, hi46, hz0, hz1, hz2⟩ := info_parts info46
  have hmf : ∀ (fn : Fn) (first cap : Array Value) (w : World), (Instr.makeFunc fn first cap).run Try.prog w = .ok (.func fn first cap) w := fun _ _ _ _ => rfl
  have HSH := Lib.hid hsh
  have HX := Lib.hid (⟨h0, hTg, hT, hC, hCn, hR, hS, hF, hTl, hL, hSl⟩ : _ ∧ _ ∧ _ ∧ _ ∧ _ ∧ _ ∧ _ ∧ _ ∧ _ ∧ _ ∧ _)
  clear hsh h0 hTg hT hC hCn hR hS hF hTl hL hSl
  obtain ⟨gh, oh, ch, rfl, hch, hgh, _⟩ := HSH.out
  go_enter Try.func6, Try.ntmps6
  go_wp2_with (fail)
  refine (isMappings _ T HX.out.2.1 HX.out.2.2.2.2.2.2.2.2.1).mono ?_
  rintro e w1 ⟨rfl, hb1⟩
  have hA := heap_alloc_new W (.cells #[.string ⟨#[]⟩] 9)
  have hAs : (W.alloc (.cells #[.string ⟨#[]⟩] 9)).heap.size = W.heap.size + 1 := by simp
  have hAb := (Below.refl W.heap.size W).alloc (Nat.le_refl _) (.cells #[.string ⟨#[]⟩] 9)
  have h9 := (hb1.block W.heap.size (by rw [hAs]; omega)).trans hA
  have hB1 := hAb.trans (hb1.mono (by rw [hAs]; omega))
  have hs1 : W.heap.size + 1 ≤ w1.heap.size := by have := hb1.size; rw [hAs] at this; exact this
  clear hb1 hA hAs hAb
  have H9 := Lib.hid h9
  have HB1 := Lib.hid hB1
  have HS1 := Lib.hid hs1
  clear h9 hB1 hs1
  go_wp2_with (fail)
  have hC := heap_alloc_new w1 (.cells #[.slice none 0 0] 42)
  have hC9 := (Below.heap_alloc w1 (.cells #[.slice none 0 0] 42) W.heap.size (by have := HS1.out; omega)).trans H9.out
  have hCb := HB1.out.alloc HB1.out.size (.cells #[.slice none 0 0] 42)
  have hCs : (w1.alloc (.cells #[.slice none 0 0] 42)).heap.size = w1.heap.size + 1 := by simp
  generalize w1.alloc (.cells #[.slice none 0 0] 42) = w2 at hC hC9 hCb hCs ⊢
  have hlB := HS1.out
  clear H9 HB1 HS1
  generalize w1.heap.size = lB at hC hCs hlB ⊢
  have HLB := Lib.hid hlB
  have H2 := Lib.hid (⟨hC, hC9, hCb, hCs⟩ : _ ∧ _ ∧ _ ∧ _)
  clear hC hC9 hCb hCs hlB
  go_loopw [19] (fun v19 wr => ∃ (i : Nat) (v : Value), v19 = .int .i64 (i : Int) ∧ i ≤ SH.length ∧ Hid (wr.heap[lB]? = some (.cells #[v] 42 (0, 0))) ∧ Hid (wr.ownsRow (lB + 1) 46 4 v i ((SH.take i).flatMap shc)) ∧ Hid (wr.heap[W.heap.size]? = some (.cells #[.string ⟨#[]⟩] 9 (0, 0))) ∧ Hid (Below W.heap.size W wr) ∧ Hid (lB + 1 ≤ wr.heap.size)) (fun v19 _ => SH.length - (intOf v19).toNat)
  case atStart => exact ⟨0, .slice none 0 0, rfl, Nat.zero_le _, Lib.hid H2.out.1, Lib.hid (World.ownsRow_nil _ _ _ _), Lib.hid H2.out.2.1, Lib.hid H2.out.2.2.1, Lib.hid (by rw [H2.out.2.2.2]; exact Nat.le_refl _)⟩
  case round =>
    obtain ⟨i, v, rfl, hi, HL, HRW, HO9, HBW, HSZ⟩ := hrel
    clear H2
    by_cases hlt : i < SH.length
    · have x0 : (0 : Int) ≤ (i : Int) := by omega
      have x1 : (i : Int) < (SH.length : Int) := by omega
      have wi : wrap64 ((i : Int) + 1) = (i : Int) + 1 := wrap_up hlt (by have := HX.out.2.2.2.2.2.2.2.2.2.2; omega)
      obtain ⟨k0, k1, k2, k3⟩ : wr.cell? ⟨gh, oh + i * 4, none⟩ = some (.int .i64 SH[i].line) ∧ wr.cell? ⟨gh, oh + i * 4 + 1, none⟩ = some (.int .i64 SH[i].col) ∧ wr.cell? ⟨gh, oh + i * 4 + 2, none⟩ = some (.int .i64 SH[i].aline) ∧ wr.cell? ⟨gh, oh + i * 4 + 3, none⟩ = some (.int .i64 SH[i].acol) := by
        obtain ⟨g, o, cap, e, _, _, h⟩ := HSH.out.below HBW.out
        cases e
        exact h i hlt
      have HTK := Lib.hid (show SH.take (i + 1) = SH.take i ++ [SH[i]] from List.take_succ_eq_append_getElem hlt)
      have HLT := Lib.hid hlt
      generalize SH[i] = s at k0 k1 k2 k3 HTK
      clear hlt hi
      go_upto_region 7 with (fail)
      have hD := heap_alloc_new wr (.cells #[.int .i64 s.line, .int .i64 s.col, .int .i64 s.aline, .int .i64 s.acol] 28)
      have hDk : ∀ g, g < wr.heap.size → (wr.alloc (.cells #[.int .i64 s.line, .int .i64 s.col, .int .i64 s.aline, .int .i64 s.acol] 28)).heap[g]? = wr.heap[g]? := fun g hg => Below.heap_alloc wr _ g hg
      have hDb := HBW.out.alloc HBW.out.size (.cells #[.int .i64 s.line, .int .i64 s.col, .int .i64 s.aline, .int .i64 s.acol] 28)
      have hDs : (wr.alloc (.cells #[.int .i64 s.line, .int .i64 s.col, .int .i64 s.aline, .int .i64 s.acol] 28)).heap.size = wr.heap.size + 1 := by simp
      have hDr := HRW.out.alloc (.cells #[.int .i64 s.line, .int .i64 s.col, .int .i64 s.aline, .int .i64 s.acol] 28)
      have hsz := HSZ.out
      have hlB := HLB.out
      have hDl := (hDk lB (by omega)).trans HL.out
      have hD9 := (hDk W.heap.size (by omega)).trans HO9.out
      generalize wr.alloc (.cells #[.int .i64 s.line, .int .i64 s.col, .int .i64 s.aline, .int .i64 s.acol] 28) = w3 at hD hDk hDb hDs hDr hDl hD9 ⊢
      have d0 : w3.cell? ⟨wr.heap.size, 0, none⟩ = some (.int .i64 s.line) := blk_cell hD 0
      have d1 : w3.cell? ⟨wr.heap.size, 1, none⟩ = some (.int .i64 s.col) := blk_cell hD 1
      have d2 : w3.cell? ⟨wr.heap.size, 2, none⟩ = some (.int .i64 s.aline) := blk_cell hD 2
      have d3 : w3.cell? ⟨wr.heap.size, 3, none⟩ = some (.int .i64 s.acol) := blk_cell hD 3
      have dl : w3.cell? ⟨lB, 0, none⟩ = some v := blk_cell hDl 0
      have H3 := Lib.hid (⟨hDb, hDs, hDr, hDl, hD9, (by omega : lB + 1 ≤ w3.heap.size)⟩ : _ ∧ _ ∧ _ ∧ _ ∧ _ ∧ _)
      clear hD hDk hDb hDs hDr hDl hD9 hsz hlB k0 k1 k2 k3
      generalize wr.heap.size = bb at d0 d1 d2 d3 H3 ⊢
      go_wp2_with (at_builtin; refine wpList_append_own _ rfl (.tmp 23) (.tmp 35) 42 rfl (lB + 1) 46 i46 (.agg #[.int .i64 0, .int .i64 0, .int .i64 0, .int .i64 0]) 4 32 Try.underlying42 hi46 hz0 hz1 hz2 rfl (by decide) _ i ((SH.take i).flatMap shc) rfl (H3.out.2.2.1.alloc _) ⟨w3.heap.size, 0, none⟩ 1 1 (shc s) rfl rfl ?c1 ?c2 ?c3 ?c4 ?c5 ?_)
      case c1 => first | exact fun j u h => news_alloc _ _ _ j u h | exact fun j u h => h | (intro j u h; simpa using h)
      case c2 => first | rfl | (intro u hu; simp only [shc, List.mem_cons, List.not_mem_nil, or_false] at hu; rcases hu with rfl | rfl | rfl | rfl <;> rfl)
      case c3 => have := HX.out.2.2.2.2.2.2.2.2.2.2; have := HLT.out; unfold maxLen; omega
      case c4 => have := HX.out.2.2.2.2.2.2.2.2.2.2; have := HLT.out; omega
      case c5 => have := H3.out.2.2.2.2.2; simp; omega
      intro v' w4 hown4 hgr _
      obtain ⟨A', cap', rfl⟩ := own_slice_any hown4
      have hs3 := H3.out.2.2.2.2.2
      have hlB := HLB.out
      have hne : ∀ q, q < lB + 1 → some q ≠ v.ownBlock := fun q hq e => by have := (H3.out.2.2.1.lt q e.symm).1; omega
      have hk4 : ∀ g, g < lB + 1 → w4.heap[g]? = w3.heap[g]? := fun g hg => (hgr.block g (by simp; omega) (hne g hg)).trans (Below.heap_alloc w3 _ g (by omega))
      have hb4 := (H3.out.1.alloc H3.out.1.size (.cells (shc s).toArray 46)).grown hgr (by have := H3.out.1.size; simp; omega) (fun k hk => by have := (H3.out.2.2.1.lt k hk).1; omega)
      have hl4 := (hk4 lB (by omega)).trans H3.out.2.2.2.1
      have h94 := (hk4 W.heap.size (by omega)).trans H3.out.2.2.2.2.1
      have hz4 : lB + 1 ≤ w4.heap.size := by have := hgr.size; simp at this; omega
      have e0 : w4.cell? ⟨lB, 0, none⟩ = some v := blk_cell hl4 0
      have f0 : w4.frozen? ⟨lB, 0, none⟩ = false := blk_frozen hl4 0
      have H4 := Lib.hid (⟨hown4, hb4, hl4, h94, hz4⟩ : _ ∧ _ ∧ _ ∧ _ ∧ _)
      clear hown4 hgr hs3 hlB hne hk4 hb4 hl4 h94 hz4 d0 d1 d2 d3 dl
      go_wp2_with (fail)
      have hup : Up lB w4 (w4.setCell ⟨lB, 0, none⟩ (.slice A' (i + 1) cap')) := Up.put (Up.refl _ _) 0 _
      have hlB := HLB.out
      have hlt := HLT.out
      go_roundw
      case rel =>
        refine ⟨i + 1, .slice A' (i + 1) cap', by rw [wi]; rfl, hlt, Lib.hid (blk_put H4.out.2.2.1 0 (.slice A' (i + 1) cap') rfl), Lib.hid ?_, Lib.hid ((hup.other W.heap.size (by omega)).trans H4.out.2.2.2.1), Lib.hid (H4.out.2.1.trans (hup.below (by omega))), Lib.hid (by rw [hup.size]; exact H4.out.2.2.2.2)⟩
        rw [HTK.out, List.flatMap_append]
        have := hup.own H4.out.1 (by omega)
        simpa using this
      case measure =>
        rw [wi]
        clear wi
        simp only [intOf]
        omega
    · obtain rfl : i = SH.length := by omega
      have hlt' : ¬ ((SH.length : Int) < (SH.length : Int)) := by omega
      have hcv : ∀ (w : World) (s : List UInt8), (convert 9 47 (.string (bs s))).run Try.prog w = .ok (.slice (some ⟨w.heap.size, 0, none⟩) s.length (grownCap w s.length 0 5)) (Lib.bytesWorld w 5 (bs s)) := fun w s => by
        have := Lib.run_convert_string_bytes (P := Try.prog) w 9 47 5 (bs s) Try.underlying9 Try.underlying47 Try.underlying5
        rw [bs_size] at this
        exact this
      clear hlt hi
      go_upto_region 10 with (fail)
      obtain ⟨hRP, hRT, hRS, hBB, hBS⟩ := three wr P T S
      simp only [Lib.bytesWorld_size]
      have hsz := HSZ.out
      have hlB := HLB.out
      have hl7 := (hBB.block lB (by omega)).trans HL.out
      have h97 := (hBB.block W.heap.size (by omega)).trans HO9.out
      have hrw := own_below hBB HRW.out (Nat.le_refl _)
      rw [List.take_length] at hrw
      have hb7 := HBW.out.trans (hBB.mono (by omega))
      clear hcv
      generalize grownCap (Lib.bytesWorld (Lib.bytesWorld wr 5 (bs P)) 5 (bs T)) S.length 0 5 = cs at hRS ⊢
      generalize grownCap (Lib.bytesWorld wr 5 (bs P)) T.length 0 5 = cm at hRT ⊢
      generalize grownCap wr P.length 0 5 = cp at hRP ⊢
      generalize Lib.bytesWorld (Lib.bytesWorld (Lib.bytesWorld wr 5 (bs P)) 5 (bs T)) 5 (bs S) = w7 at hRP hRT hRS hBB hBS hl7 h97 hrw hb7 ⊢
      generalize wr.heap.size = gp at *
      have hE := heap_alloc_new w7 (.cells #[.slice (some ⟨gp, 0, none⟩) P.length cp, .slice (some ⟨gp + 1, 0, none⟩) T.length cm, .slice (some ⟨gp + 1 + 1, 0, none⟩) S.length cs] 49)
      have hEk : ∀ g, g < w7.heap.size → (w7.alloc (.cells #[.slice (some ⟨gp, 0, none⟩) P.length cp, .slice (some ⟨gp + 1, 0, none⟩) T.length cm, .slice (some ⟨gp + 1 + 1, 0, none⟩) S.length cs] 49)).heap[g]? = w7.heap[g]? := fun g hg => Below.heap_alloc w7 _ g hg
      have hEb := hb7.alloc hb7.size (.cells #[.slice (some ⟨gp, 0, none⟩) P.length cp, .slice (some ⟨gp + 1, 0, none⟩) T.length cm, .slice (some ⟨gp + 1 + 1, 0, none⟩) S.length cs] 49)
      have hEs : (w7.alloc (.cells #[.slice (some ⟨gp, 0, none⟩) P.length cp, .slice (some ⟨gp + 1, 0, none⟩) T.length cm, .slice (some ⟨gp + 1 + 1, 0, none⟩) S.length cs] 49)).heap.size = w7.heap.size + 1 := by simp
      have hl8 := (hEk lB (by omega)).trans hl7
      have h98 := (hEk W.heap.size (by omega)).trans h97
      have hB8 := (Below.refl gp w7).alloc (by omega) (.cells #[.slice (some ⟨gp, 0, none⟩) P.length cp, .slice (some ⟨gp + 1, 0, none⟩) T.length cm, .slice (some ⟨gp + 1 + 1, 0, none⟩) S.length cs] 49)
      have hBb8 := (Below.refl w7.heap.size w7).alloc (Nat.le_refl _) (.cells #[.slice (some ⟨gp, 0, none⟩) P.length cp, .slice (some ⟨gp + 1, 0, none⟩) T.length cm, .slice (some ⟨gp + 1 + 1, 0, none⟩) S.length cs] 49)
      generalize w7.alloc (.cells #[.slice (some ⟨gp, 0, none⟩) P.length cp, .slice (some ⟨gp + 1, 0, none⟩) T.length cm, .slice (some ⟨gp + 1 + 1, 0, none⟩) S.length cs] 49) = w8 at hE hEk hEb hEs hl8 h98 hB8 hBb8 ⊢
      rw [hBS] at hE
      have HH := Lib.hid (⟨hRP, hRT, hRS, hBB, hBS, hl8, h98, hrw, hE, hEb, hEs, hBb8, hsz, hlB⟩ : _ ∧ _ ∧ _ ∧ _ ∧ _ ∧ _ ∧ _ ∧ _ ∧ _ ∧ _ ∧ _ ∧ _ ∧ _ ∧ _)
      clear hRP hRT hRS hBB hBS hl8 h98 hrw hE hEb hEs hBb8 hsz hlB hl7 h97 hb7 hEk hB8 HLB HSZ HO9 HRW
      obtain ⟨R, hR⟩ : ∃ R, R = P ++ tlF ⟨0, 0, 0, SH⟩ l ++ S := ⟨_, rfl⟩
      have hQ : ∀ w' : World, (w'.heap[W.heap.size]? = some (.cells #[.string (bs R)] 9 (0, 0)) ∧ ∃ w1, Gr gp none (w8.alloc (.cells #[.bool false] 4)) w1 ∧ Up W.heap.size w1 w') → w'.heap[w8.heap.size]? = some (.cells #[.bool false] 4 (0, 0)) := by
        rintro w' ⟨_, w1, hg, hu⟩
        obtain ⟨hRP, hRT, hRS, hBB, hBS, hl8, h98, hrw, hE, hEb, hEs, hBb8, hsz, hlB⟩ := HH.out
        exact (hu.other w8.heap.size (by omega)).trans ((hg.block w8.heap.size (by simp) (by omega) (by simp)).trans (heap_alloc_new w8 _))
      have hC : Calls Try.prog 14 #[.pointer (some ⟨gp + 1 + 1 + 1, 0, none⟩), .pointer (some ⟨lB, 0, none⟩), .pointer (some ⟨W.heap.size, 0, none⟩)] (w8.alloc (.cells #[.bool false] 4)) fun e w' => e = .returned (.tuple #[]) ∧ (w'.heap[W.heap.size]? = some (.cells #[.string (bs R)] 9 (0, 0)) ∧ ∃ w1, Gr gp none (w8.alloc (.cells #[.bool false] 4)) w1 ∧ Up W.heap.size w1 w') := by
        obtain ⟨hRP, hRT, hRS, hBB, hBS, hl8, h98, hrw, hE, hEb, hEs, hBb8, hsz, hlB⟩ := HH.out
        have hk : ∀ g, g < w8.heap.size → (w8.alloc (.cells #[.bool false] 4)).heap[g]? = w8.heap[g]? := fun g hg => Below.heap_alloc w8 _ g hg
        have hs9 : (w8.alloc (.cells #[.bool false] 4)).heap.size = w8.heap.size + 1 := by simp
        have hb9 := hBb8.trans ((Below.refl w7.heap.size w8).alloc (by omega) (.cells #[.bool false] 4))
        have hP9 : ∀ g cap X, g < w7.heap.size → Rm w7 g cap X → Rm (w8.alloc (.cells #[.bool false] 4)) g cap X := fun g cap X hg h => ⟨fun i hi => (cell_of' (hb9.block g hg)).trans (h.cells i hi), h.le, fun j hj => by rw [cell_of' (hb9.block g hg)]; exact h.there j hj, fun j hj => (World.frozen?_of_block (hb9.block g hg)).trans (h.thaw j hj)⟩
        refine closure _ (gp + 1 + 1 + 1) lB W.heap.size gp _ _ _ v ⟨#[]⟩ R ((hk _ (by omega)).trans hE) ((hk _ (by omega)).trans hl8) ((hk _ (by omega)).trans h98) (by omega) ?_
        obtain ⟨A, c, rfl⟩ := own_slice_any hrw
        by_cases h1 : SH.length = 1
        · obtain ⟨s, rfl⟩ : ∃ s, SH = [s] := List.length_eq_one_iff.1 h1
          have e : R = P ++ (T ++ S) := by
            rw [hR, tlF_one s l _ rfl, HX.out.2.2.1, List.append_assoc]
          rw [e]
          refine (finalize1 _ gp gp (gp + 1) (gp + 1 + 1) cp cm cs A c P T S (hP9 _ _ _ (by omega) hRP) (hP9 _ _ _ (by omega) hRT).cells (hP9 _ _ _ (by omega) hRS).cells (by omega) (by omega) (by omega) (by omega) (by omega) (Nat.le_refl _) (by
            have := HX.out.2.2.2.2.2.2.2.1
            rw [← hR, e] at this
            exact this)).mono ?_
          rintro e w' ⟨v, rfl, hv, _, hg⟩
          exact ⟨v, rfl, hv, hg⟩
        · have h2 : 2 ≤ SH.length := by
            have := List.length_pos_iff.2 HX.out.1
            omega
          have hRR : ∀ g cap X, g < w7.heap.size → Rm w7 g cap X → Bs (w8.alloc (.cells #[.bool false] 4)) (w8.alloc (.cells #[.bool false] 4)).heap.size (.slice (some ⟨g, 0, none⟩) X.length cap) X := fun g cap X hg h =>
            ⟨g, 0, cap, rfl, h.le, by omega, fun i hi => by rw [Nat.zero_add]; exact (hP9 g cap X hg h).cells i hi⟩
          refine (finalize _ _ _ _ _ P T S SH l (hRR _ _ _ (by omega) hRP) (hRR _ _ _ (by omega) hRT) (hRR _ _ _ (by omega) hRS) (sl_own (own_below hb9 hrw (Nat.le_refl _)) rfl HX.out.1 (Nat.le_refl _)) h2 HX.out.2.2.1 HX.out.2.2.2.1 HX.out.2.2.2.2.1 HX.out.2.2.2.2.2.1 HX.out.2.2.2.2.2.2.1 HX.out.2.2.2.2.2.2.2.1 HX.out.2.2.2.2.2.2.2.2.1 HX.out.2.2.2.2.2.2.2.2.2.1).mono ?_
          rintro e w' ⟨v, rfl, hv, hb⟩
          rw [← hR] at hv
          exact ⟨v, rfl, hv, hb.os, hb.tape, hb.output, hb.size, fun g hg _ _ => hb.block g hg⟩
      go_wp2_with (fail)
      refine (calm w8 _ _ hC hQ).mono ?_
      rintro e w9 ⟨rfl, w1, ⟨h9, w1', hg, hu⟩, hu2⟩
      clear hC hQ
      obtain ⟨hRP, hRT, hRS, hBB, hBS, hl8, h98, hrw, hE, hEb, hEs, hBb8, hsz, hlB⟩ := HH.out
      have h99 := (hu2.other W.heap.size (by omega)).trans h9
      have hs9 : (w8.alloc (.cells #[.bool false] 4)).heap.size = w8.heap.size + 1 := by simp
      have hb9 := hEb.alloc hEb.size (.cells #[.bool false] 4)
      have hb1 : Below W.heap.size (w8.alloc (.cells #[.bool false] 4)) w1' := ⟨hg.os, hg.tape, hg.output, hg.size, fun g hgl => hg.block g (by omega) (by omega) (by simp)⟩
      have hb2 := ((hb9.trans hb1).trans (hu.below (Nat.le_refl _))).trans (hu2.below (by omega))
      have d0 : w9.cell? ⟨W.heap.size, 0, none⟩ = some (.string (bs R)) := blk_cell h99 0
      have f0 : w9.frozen? ⟨W.heap.size, 0, none⟩ = false := blk_frozen h99 0
      have H99 := Lib.hid h99
      have HB2 := Lib.hid hb2
      have HR := Lib.hid hR
      clear h9 hg hu hu2 hRP hRT hRS hBB hBS hl8 h98 hrw hE hEb hEs hBb8 hsz hlB h99 hs9 hb9 hb1 hb2 hR
      go_wp2_with (fail)
      have hB3 := blk_put H99.out 0 (.string (bs R)) (cs' := #[.string (bs R)]) rfl
      have d2 : (w9.setCell ⟨W.heap.size, 0, none⟩ (.string (bs R))).cell? ⟨W.heap.size, 0, none⟩ = some (.string (bs R)) := blk_cell hB3 0
      refine bodyPost_ret (v := .tuple #[.string (bs R), .bool true]) ?hr rfl ⟨by rw [HR.out], HB2.out.setCell (Nat.le_refl _) _⟩
      case hr => simp [results, Try.results6, go_sem, d2]
end Go.Proofs.Ytdhaifcjhmmdlaa.fnFinalize
