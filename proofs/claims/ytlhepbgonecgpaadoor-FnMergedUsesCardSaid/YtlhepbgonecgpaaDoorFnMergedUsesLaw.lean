/-
  FnMergedUses: the law's own walk: it answers true.
  Conditions: ast.InvalidRef is what it is laid as.
-/
import Derived.Test.YtlhepbgonecgpaaDoorFnMergedUsesAwake
import Derived.ProofKit
namespace Go.Proofs.YtlhepbgonecgpaaDoor.fnMergedUses
open Go.RowKit Go.Proofs.YtlhepbgonecgpaaDoorW.PrintWords Go.Proofs.YtlhepbgonecgpaaDoorW.PrintLast Go.Proofs.YtlhepbgonecgpaaDoorW.PrintMore Go.Proofs.YtlhepbgonecgpaaDoor.PFnMergedUses
set_option linter.unusedVariables false
set_option linter.unusedSimpArgs false

theorem fits2 (x : S30) : ∃ r, laws_zzFits2.f x.f0 x.f1 x.f2 x.f3 = some r := by
  unfold laws_zzFits2.f
  split
  · exact ⟨_, rfl⟩
  · exact ⟨_, rfl⟩
theorem wrap_next (j : Nat) (h : j ≤ 2147483648) : wrap64 ((j : Int) + 1) = ((j + 1 : Nat) : Int) := by unfold wrap64; omega
theorem fits_l (xs : List S30) (hn : xs.length ≤ 2147483647) : ∀ (m j : Nat), j + m = xs.length → ∃ r, laws_zzFits1.l0 (m + 1) xs (xs.length : Int) (j : Int) = some r := by
  intro m
  induction m with
  | zero =>
    intro j hj
    unfold laws_zzFits1.l0
    rw [if_neg (by omega)]
    exact ⟨_, rfl⟩
  | succ m ih =>
    intro j hj
    unfold laws_zzFits1.l0
    rw [if_pos (by omega), if_pos (by omega), if_pos (by omega)]
    obtain ⟨r, hr⟩ := fits2 (rd_T30 xs j)
    obtain ⟨r2, h⟩ := ih (j + 1) (by omega)
    rw [← wrap_next j (by omega)] at h
    rw [hr, Option.bind_some]
    by_cases hrt : r = true
    · rw [if_pos hrt]
      exact ⟨r2, h⟩
    · rw [if_neg hrt]
      exact ⟨_, rfl⟩
theorem fits1 (xs : List S30) : ∃ k r, laws_zzFits1.f k xs = some r ∧ (r = true → xs.length ≤ 2147483647) := by
  by_cases h : (xs.length : Int) > 2147483647
  · exact ⟨0, false, by unfold laws_zzFits1.f; rw [if_pos h], fun h => by cases h⟩
  · obtain ⟨r, hr⟩ := fits_l xs (by omega) xs.length 0 (by omega)
    exact ⟨xs.length + 1, r, by unfold laws_zzFits1.f; rw [if_neg h]; exact hr, fun _ => by omega⟩
theorem nums_l (ms : List Int) (n : Int) (hn : ms.length ≤ 800) : ∀ (m j : Nat), j + m = ms.length → ∃ r, laws_numbersBelow.l0 (m + 1) n ms (ms.length : Int) (j : Int) = some r ∧ (r = true → ∀ i : Nat, j ≤ i → i < ms.length → 0 ≤ rd ms i ∧ rd ms i < n) := by
  intro m
  induction m with
  | zero =>
    intro j hj
    unfold laws_numbersBelow.l0
    rw [if_neg (by omega)]
    exact ⟨_, rfl, fun _ i h1 h2 => by omega⟩
  | succ m ih =>
    intro j hj
    unfold laws_numbersBelow.l0
    rw [if_pos (by omega), if_pos (by omega), if_pos (by omega)]
    by_cases h1 : rd ms j < 0
    · rw [if_pos h1]; exact ⟨_, rfl, fun h => by cases h⟩
    · rw [if_neg h1]
      by_cases h2 : rd ms j ≥ n
      · rw [if_pos h2]; exact ⟨_, rfl, fun h => by cases h⟩
      · rw [if_neg h2]
        obtain ⟨r, h, hv⟩ := ih (j + 1) (by omega)
        refine ⟨r, ?_, fun hr i hi1 hi2 => ?_⟩
        · rw [← wrap_next j (by omega)] at h
          exact h
        · by_cases hij : i = j
          · subst hij
            omega
          · exact hv hr i (by omega) hi2
theorem nums (ms : List Int) (n : Int) (hn : ms.length ≤ 800) : ∃ k r, laws_numbersBelow.f k ms n = some r ∧ (r = true → ∀ i : Nat, i < ms.length → 0 ≤ rd ms i ∧ rd ms i < n) := by
  obtain ⟨r, h, hv⟩ := nums_l ms n hn ms.length 0 (by omega)
  exact ⟨ms.length + 1, r, h, fun hr i hi => hv hr i (Nat.zero_le _) hi⟩
theorem prs_lt (ms : List Int) (n : Nat) (h : ∀ i : Nat, i < ms.length → 0 ≤ rd ms i ∧ rd ms i < n) : ∀ p ∈ prs ms (ms.length / 2), p.1 < n ∧ p.2 < n := by
  intro p hp
  obtain ⟨j, hj, rfl⟩ := List.mem_map.1 hp
  rw [List.mem_range] at hj
  have h1 := h (2 * j) (by omega)
  have h2 := h (2 * j + 1) (by omega)
  unfold at'
  constructor
  · show (rd ms _).toNat < n
    omega
  · show (rd ms _).toNat < n
    omega
theorem implAny (W : World) (N : Nat) (A : Option Addr) (c : Nat) (xs : List S30) (v u : Value) (ps : List (Nat × Nat)) (S : List Nat) (hC : Kd.C k30 W A xs.length xs) (hc : xs.length ≤ c) (hn : xs.length ≤ 200)
    (hU : ∀ x ∈ xs, 0 ≤ x.f1 ∧ x.f1 < 4294967296)
    (g0 : W.cell? ⟨0, 0, none⟩ = some (.int .u32 4294967295)) (g1 : W.cell? ⟨0, 1, none⟩ = some (.int .u32 4294967295))
    (hp : PR W N v ps) (hu : RA W N u S.length (cellsN S)) (hN : N ≤ W.heap.size) (hps : ∀ p ∈ ps, p.1 < xs.length ∧ p.2 < xs.length) (hl : ps.length ≤ 800) (hS : ∀ x ∈ S, x < xs.length) (hSl : S.length ≤ 800) :
    Calls Tryd.prog 7 #[.slice A xs.length c, v, u] W (ImpPost W xs ps S) := by
  by_cases h : 0 < xs.length
  · exact implMerged W N A c xs v u ps S hC hc hn h hU g0 g1 hp hu hN hps hl hS hSl
  · obtain rfl : xs = [] := List.eq_nil_of_length_eq_zero (by omega)
    obtain rfl : ps = [] := List.eq_nil_iff_forall_not_mem.2 fun p hp => by have := (hps p hp).1; simp at this
    obtain rfl : S = [] := List.eq_nil_iff_forall_not_mem.2 fun x hx => by have := hS x hx; simp at this
    exact implMerged0 W N A c v u hC g0 g1 hp hu hN
theorem RA_nil (W : World) (N : Nat) : RA W N (.slice none 0 0) ([] : List Nat).length (cellsN []) := ⟨none, 0, rfl, Nat.le_refl _, fun i hi => absurd hi (by simp)⟩

set_option maxHeartbeats 40000000 in
set_option maxRecDepth 100000 in
theorem law (xs : List S30) (ms : List Int) (A B : Option Addr) (ca cb : Nat) (W : World) (hA : Kd.C k30 W A xs.length xs) (hca : xs.length ≤ ca) (hB : Kd.C (Kd.int .i64) W B ms.length ms) (hcb : ms.length ≤ cb)
    (hU : ∀ x ∈ xs, 0 ≤ x.f1 ∧ x.f1 < 4294967296) (g0 : W.cell? ⟨0, 0, none⟩ = some (.int .u32 4294967295)) (g1 : W.cell? ⟨0, 1, none⟩ = some (.int .u32 4294967295)) :
    Calls Tryd.prog 3 #[.slice A xs.length ca, .slice B ms.length cb] W fun e w' => e = .returned (.bool true) ∧ Below W.heap.size W w' := by
  have h0 := World.block_lt_of_cell? W _ g0
  have h0' : 0 < W.heap.size := h0
  obtain ⟨k, r, hf, hlen⟩ := fits1 xs
  have HA := Lib.hid hA
  have HB := Lib.hid hB
  have HU := Lib.hid hU
  have HG0 := Lib.hid g0
  have HG1 := Lib.hid g1
  have HF := Lib.hid hf
  clear hA hB hU g0 g1 hf
  go_enter Tryd.func3, Tryd.ntmps3
  go_wp2_with (fail)
  refine (laws_zzFits1.calls k A ca xs r W HA.out hca HF.out).mono ?_
  rintro e w1 ⟨rfl, hb1⟩
  have HB1 := Lib.hid hb1
  clear hb1 HF
  cases r
  · go_wp2_with (fail)
    go_ret
    exact ⟨rfl, HB1.out⟩
  have hx : xs.length ≤ 2147483647 := hlen rfl
  by_cases l2 : (2147483647 : Int) < ms.length
  · go_wp2_with (fail)
    go_ret
    exact ⟨rfl, HB1.out⟩
  have AW : ∀ w2, Below W.heap.size W w2 → Calls Tryd.prog 6 #[] w2 fun e w' => e = .returned (.bool true) ∧ Below W.heap.size W w' := fun w2 hb =>
    (awake w2 ((hb.cell (by exact h0)).trans HG0.out) ((hb.cell (by exact h0)).trans HG1.out)).mono fun e w' ⟨he, hb'⟩ => ⟨he, hb.trans (hb'.mono hb.size)⟩
  by_cases l3 : (200 : Int) < xs.length
  · go_wp2_with (fail)
    refine (AW _ HB1.out).mono ?_
    rintro e w2 ⟨rfl, hb2⟩
    go_wp2_with (fail)
    go_ret
    exact ⟨rfl, hb2⟩
  by_cases l4 : (800 : Int) < ms.length
  · go_wp2_with (fail)
    refine (AW _ HB1.out).mono ?_
    rintro e w2 ⟨rfl, hb2⟩
    go_wp2_with (fail)
    go_ret
    exact ⟨rfl, hb2⟩
  have hn : xs.length ≤ 200 := by omega
  have hm : ms.length ≤ 800 := by omega
  obtain ⟨k2, r2, hf2, hv⟩ := nums ms xs.length hm
  have HF2 := Lib.hid hf2
  have HV := Lib.hid hv
  clear hf2 hv
  go_wp2_with (fail)
  refine (laws_numbersBelow.calls k2 B cb ms xs.length r2 w1 (Kd.C_below HB.out HB1.out) hcb HF2.out).mono ?_
  rintro e w2 ⟨rfl, n, rfl⟩
  have hb2 := below_drewN HB1.out n
  generalize w1.drewN n = w2 at hb2 ⊢
  have HB2 := Lib.hid hb2
  clear hb2 HB1 HF2
  cases r2
  · go_wp2_with (fail)
    refine (AW _ HB2.out).mono ?_
    rintro e w3 ⟨rfl, hb2⟩
    go_wp2_with (fail)
    go_ret
    exact ⟨rfl, hb2⟩
  have HVT := Lib.hid (HV.out rfl)
  clear HV
  go_wp2_with (fail)
  obtain ⟨i0, hi, hz0, hz1, hz2⟩ := info_parts info28
  have hsz2 : W.heap.size ≤ w2.heap.size := HB2.out.size
  generalize hq : w2.heap.size = Q at *
  have hu0 : Hid (w2.ownsRow Q 28 1 (.slice none 0 0) 0 (cellsU ((xs.take 0).map (·.f1)))) := Lib.hid (World.ownsRow_nil _ _ _ _)
  go_loopw [5, 39] (fun v5 v39 wr => ∃ x : Nat, v39 = .int .i64 x ∧ x ≤ xs.length ∧ Hid (wr.ownsRow Q 28 1 v5 x (cellsU ((xs.take x).map (·.f1)))) ∧ Hid (Below W.heap.size W wr) ∧ Q ≤ wr.heap.size) (fun _ v39 _ => xs.length - (intOf v39).toNat)
  case atStart => exact ⟨0, rfl, Nat.zero_le _, hu0, HB2, Nat.le_of_eq hq.symm⟩
  case round =>
    obtain ⟨x, rfl, hxl, HO, HB3, hqs⟩ := hrel
    clear HB2 hu0
    by_cases hx1 : x < xs.length
    · have hx1' : (x : Int) < xs.length := by omega
      have x0 : (0 : Int) ≤ x := by omega
      obtain ⟨ad, rfl, c0, c1, c2, c3⟩ := at_T30 HA.out (x : Int) x0 hx1'
      have c0 := (HB3.out.cell (by exact World.block_lt_of_cell? _ _ c0)).trans c0
      have c1 := (HB3.out.cell (by exact World.block_lt_of_cell? _ _ c1)).trans c1
      have c2 := (HB3.out.cell (by exact World.block_lt_of_cell? _ _ c2)).trans c2
      have c3 := (HB3.out.cell (by exact World.block_lt_of_cell? _ _ c3)).trans c3
      have hrd : rd_T30 xs x = xs[x] := by simp [rd_T30, List.getD, hx1]
      have HTK := Lib.hid (List.take_succ_eq_append_getElem hx1)
      rw [hrd, Int.toNat_natCast] at c0 c1 c2 c3
      generalize xs[x] = s at *
      have hsr : W.heap.size ≤ wr.heap.size := HB3.out.size
      go_wp2_with (at_builtin; refine wpList_append_own _ rfl (.tmp 43) (.tmp 46) 27 rfl Q 28 i0 (.int .u32 0) 1 4 Tryd.underlying27 hi hz0 hz1 hz2 rfl (by decide) _ x _ rfl ((HO.out.alloc _).alloc _) ⟨wr.heap.size + 1, 0, none⟩ 1 1 [.int .u32 s.f1] rfl rfl ?n1 (by intro u hu; simp only [List.mem_cons, List.not_mem_nil, or_false] at hu; rcases hu with rfl; rfl) (by unfold maxLen; omega) (by omega) (by simp; omega) ?_)
      case n1 =>
        intro j u h
        have := World.news_of_block (w := (wr.alloc (.cells #[.string s.f0, .int .u32 s.f1, .int .i64 s.f2, .int .i64 s.f3] 30)).alloc (.cells #[.int .u32 s.f1] 28)) (B := wr.heap.size + 1) (alloc_at (by simp)) j u h
        exact this
      intro v' w7 hown7 hgrow7 _
      have HB7 := Lib.hid (show Below W.heap.size W w7 from ((HB3.out.alloc hsr _).alloc (by simp; omega) _).grown hgrow7 (by simp; omega) (fun k hk => Nat.le_trans (by omega) (own_base HO.out k hk)))
      have HO7 := Lib.hid (show w7.ownsRow Q 28 1 v' (x + 1) (cellsU ((xs.take (x + 1)).map (·.f1))) by
        rw [HTK.out]
        simpa [cellsU] using hown7)
      have hq7 : Q ≤ w7.heap.size := by have := hgrow7.size; simp at this; omega
      clear hown7 hgrow7
      have wx : IntKind.i64.wrap ((x : Int) + 1) = ((x + 1 : Nat) : Int) := by rw [IntKind.wrap_i64]; omega
      go_wp2_with (fail)
      go_roundw
      case rel => exact ⟨x + 1, by simp [wx], by omega, HO7, HB7, hq7⟩
      case measure =>
        simp only [intOf]
        omega
    · have hx1' : ¬ (x : Int) < xs.length := by omega
      obtain rfl : x = xs.length := by omega
      rw [List.take_length] at HO
      go_wp2_with (fail)
      have hps := prs_lt ms xs.length HVT.out
      have hpl : (prs ms (ms.length / 2)).length ≤ 800 := by rw [prs_len]; omega
      have h0v : ∀ i : Nat, i < ms.length → 0 ≤ rd ms i := fun i hi => (HVT.out i hi).1
      have HPS := Lib.hid hps
      have H0V := Lib.hid h0v
      clear hps h0v
      have hO := HO.out
      have hUl : (xs.map (·.f1)).length = xs.length := by simp
      have hR : RA wr wr.heap.size u5 (xs.map (·.f1)).length (cellsU (xs.map (·.f1))) := by rw [hUl]; exact RA.of_own hO
      have HR := Lib.hid hR
      clear hO HO hR
      have hC := Lib.hid (Kd.C_below HB.out HB3.out)
      refine (pairsOf wr B cb ms hC.out hcb hm H0V.out).mono ?_
      rintro e w3 ⟨pv, rfl, hp3, hb3⟩
      have HP3 := Lib.hid hp3
      have HR3 := Lib.hid (HR.out.keep (fun g hg => hb3.block g hg))
      have hs3 : wr.heap.size ≤ w3.heap.size := hb3.size
      have HB4 := Lib.hid (HB3.out.trans (hb3.mono HB3.out.size))
      clear hp3 hb3 HR HB3 hC
      go_wp2_with (fail)
      refine (implAny w3 w3.heap.size A ca xs pv (.slice none 0 0) (prs ms (ms.length / 2)) [] (Kd.C_below HA.out HB4.out) hca hn HU.out ((HB4.out.cell (by exact h0)).trans HG0.out) ((HB4.out.cell (by exact h0)).trans HG1.out) HP3.out (RA_nil _ _) (Nat.le_refl _) HPS.out hpl (fun x hx => by cases hx) (by simp)).mono ?_
      rintro e w4 ⟨r1, r2, L, rfl, _, hrs, hag, hb4⟩
      have hLl : L.length = xs.length := by have := hag.1.len; rw [stands_len] at this; exact this
      obtain ⟨RA2, rcap, rfl, hrc, hrat⟩ := hrs
      rw [hLl] at hrc hrat
      have hs4 : w3.heap.size ≤ w4.heap.size := hb4.size
      have HB5 := Lib.hid (HB4.out.trans (hb4.mono HB4.out.size))
      have HR4 := Lib.hid (HR3.out.keep (fun g hg => hb4.block g (by omega)))
      have HAG := Lib.hid hag
      have HRAT := Lib.hid hrat
      clear hb4 hag hrat HP3 HR3 HB4
      rw [hLl]
      go_wp2_with (fail)
      have hC := Lib.hid (Kd.C_below HB.out HB5.out)
      refine (pairsOf w4 B cb ms hC.out hcb hm H0V.out).mono ?_
      rintro e w5 ⟨pv2, rfl, hp5, hb5⟩
      have hs5 : w4.heap.size ≤ w5.heap.size := hb5.size
      have HB6 := Lib.hid (HB5.out.trans (hb5.mono HB5.out.size))
      have HR5 := Lib.hid (HR4.out.keep (fun g hg => hb5.block g (by omega)))
      have HP5 := Lib.hid hp5
      have HK5 := Lib.hid (show ∀ g, g < w4.heap.size → w5.heap[g]? = w4.heap[g]? from fun g hg => hb5.block g hg)
      clear hb5 hp5 HR4 HB5 hC
      go_wp2_with (fail)
      refine (symUses w5 w5.heap.size u5 pv2 (xs.map (·.f1)) (prs ms (ms.length / 2)) (HR5.out.mono (by omega)) HP5.out (Nat.le_refl _) (by rw [hUl]; exact hn) (by rw [hUl]; exact HPS.out) hpl).mono ?_
      rintro e w6 ⟨rw6, rfl, hr6, hb6⟩
      rw [hUl] at hr6
      have hs6 : w5.heap.size ≤ w6.heap.size := hb6.size
      have HB7 := Lib.hid (HB6.out.trans (hb6.mono HB6.out.size))
      have HK6 := Lib.hid (show ∀ g, g < w4.heap.size → w6.heap[g]? = w4.heap[g]? from fun g hg => (hb6.block g (by omega)).trans (HK5.out g hg))
      have HW6 := Lib.hid hr6
      clear hb6 hr6 HR5 HP5 HB6 HK5
      go_wp2_with (fail)
      have hC := Lib.hid (Kd.C_below HB.out HB7.out)
      refine (pairsOf w6 B cb ms hC.out hcb hm H0V.out).mono ?_
      rintro e w7 ⟨pv3, rfl, hp7, hb7⟩
      have hs7 : w6.heap.size ≤ w7.heap.size := hb7.size
      have HB8 := Lib.hid (HB7.out.trans (hb7.mono HB7.out.size))
      have HK7 := Lib.hid (show ∀ g, g < w4.heap.size → w7.heap[g]? = w4.heap[g]? from fun g hg => (hb7.block g (by omega)).trans (HK6.out g hg))
      have HW7 := Lib.hid (HW6.out.keep (fun g hg => hb7.block g hg))
      have HP7 := Lib.hid hp7
      clear hb7 hp7 HB7 HK6 HW6 hC
      go_wp2_with (fail)
      refine (symMerge w7 xs.length w7.heap.size pv3 (prs ms (ms.length / 2)) HP7.out (Nat.le_refl _) hn HPS.out hpl).mono ?_
      rintro e w8 ⟨rs, rfl, hr8, hb8⟩
      have HB9 := Lib.hid (HB8.out.trans (hb8.mono HB8.out.size))
      have HK8 := Lib.hid (show ∀ g, g < w4.heap.size → w8.heap[g]? = w4.heap[g]? from fun g hg => (hb8.block g (by omega)).trans (HK7.out g hg))
      have HW8 := Lib.hid (HW7.out.keep (fun g hg => hb8.block g (by omega)))
      have hst : RA w8 w8.heap.size rs xs.length (cellsN (stands xs.length (prs ms (ms.length / 2)))) := by
        have h := RA.of_own hr8
        rw [stands_len] at h
        exact h
      obtain ⟨SA, scap, rfl, hsc, hsat⟩ := hst
      obtain ⟨WA, wcap, rfl, hwc, hwat⟩ := HW8.out
      have hs8 : w7.heap.size ≤ w8.heap.size := hb8.size
      have HSAT := Lib.hid hsat
      have HWAT := Lib.hid hwat
      clear hb8 hr8 hsat hwat HB8 HK7 HW7 HP7 HW8
      have HRAT8 := Lib.hid (show ∀ i, i < xs.length → ∃ g, RA2 = some ⟨g, 0, none⟩ ∧ g < w8.heap.size ∧ w8.cell? ⟨g, i * 4 + 1, none⟩ = some (.int .u32 (us L i)) from fun i hi => by
        obtain ⟨g, e, hg, c⟩ := HRAT.out i hi
        exact ⟨g, e, by omega, (cell_of (HK8.out g hg)).trans c⟩)
      clear HRAT HK8
      generalize hps : prs ms (ms.length / 2) = ps at *
      go_wp2_with (fail)
      go_loopw [12, 72] (fun v12 v72 wr9 => ∃ x : Nat, v72 = .int .i64 x ∧ x ≤ xs.length ∧ Hid (Below w8.heap.size w8 wr9)) (fun _ v72 _ => xs.length - (intOf v72).toNat)
      case atStart => exact ⟨0, rfl, Nat.zero_le _, Lib.hid (Below.refl _ _)⟩
      case round =>
        obtain ⟨x, rfl, hxl, HBR⟩ := hrel
        by_cases hx1 : x < xs.length
        · have hx1' : (x : Int) < xs.length := by omega
          have x0 : (0 : Int) ≤ x := by omega
          have wx : IntKind.i64.wrap ((x : Int) + 1) = ((x + 1 : Nat) : Int) := by rw [IntKind.wrap_i64]; omega
          obtain ⟨sg, rfl, hsg, c1⟩ := HSAT.out x hx1
          obtain ⟨wg, rfl, hwg, c2⟩ := HWAT.out x hx1
          obtain ⟨ag, rfl, hag', c3⟩ := HRAT8.out x hx1
          have c2 := (HBR.out.cell (by show wg < _; omega)).trans c2
          have c3 := (HBR.out.cell (by exact hag')).trans c3
          have c1 : wr.cell? ⟨sg, x, none⟩ = some (.int .i64 ((stands xs.length ps).getD x 0)) := ((HBR.out.cell (by exact hsg)).trans c1).trans (by simp [cellsN, List.getD, stands_len, hx1])
          rw [tots_get _ _ _ _ _ hx1] at c2
          by_cases hv : (stands xs.length ps).getD x 0 = x
          · have hroot := HAG.out.1.root (by rw [stands_len]; exact hx1) hv
            rw [stands_len] at hroot
            rw [← hroot] at c2
            rw [hv] at c1
            generalize us L x = T at c2 c3
            clear hroot hv
            go_wp2_with (fail)
            go_quiet (fail)
            have HBQ := Lib.hid (below_drewN HBR.out nq)
            go_wp2_with (fail)
            go_roundw
            case rel => exact ⟨x + 1, by simp [wx], by omega, HBQ⟩
            case measure =>
              simp only [intOf]
              omega
          · have hv' : ¬ (((stands xs.length ps).getD x 0 : Nat) : Int) = x := by omega
            generalize (((stands xs.length ps).getD x 0 : Nat) : Int) = T at c1 hv'
            clear c2 c3
            have hd : decide (T = (x : Int)) = false := decide_eq_false hv'
            go_wp2_with (fail)
            go_quiet (fail)
            have HBQ := Lib.hid (below_drewN HBR.out nq)
            go_wp2_with (fail)
            go_roundw
            case rel => exact ⟨x + 1, by simp [wx], by omega, HBQ⟩
            case measure =>
              simp only [intOf]
              omega
        · have hx1' : ¬ (x : Int) < xs.length := by omega
          obtain rfl : x = xs.length := by omega
          have HB10 := Lib.hid (HB9.out.trans (HBR.out.mono HB9.out.size))
          go_wp2_with (fail)
          refine (AW _ HB10.out).mono ?_
          rintro e w11 ⟨rfl, hb11⟩
          go_wp2_with (fail)
          go_ret
          exact ⟨rfl, hb11⟩
end Go.Proofs.YtlhepbgonecgpaaDoor.fnMergedUses
