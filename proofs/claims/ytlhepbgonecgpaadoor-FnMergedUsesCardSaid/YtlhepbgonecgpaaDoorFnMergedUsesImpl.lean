/-
  FnMergedUses: the walk of impl.Merged.
  Conditions: at least one and at most 200 symbols; the pairs and what is asked are numbers of symbols.
-/
import Derived.Test.YtlhepbgonecgpaaDoorFnMergedUsesMerged
import Derived.Laws.EntriesVeiled
namespace Go.Proofs.YtlhepbgonecgpaaDoor.fnMergedUses
open Go.RowKit Go.Proofs.YtlhepbgonecgpaaDoorW.PrintWords Go.Proofs.YtlhepbgonecgpaaDoorW.PrintLast Go.Proofs.YtlhepbgonecgpaaDoorW.PrintMore Go.Proofs.YtlhepbgonecgpaaDoor.PFnMergedUses
set_option linter.unusedVariables false
set_option linter.unusedSimpArgs false

theorem info30 : (Tryd.prog.info? 30).map (fun i => (i.zero, i.size, i.bytes)) = some (some (.agg #[.string ⟨#[]⟩, .int .u32 0, .int .i64 0, .int .i64 0]), 4, 40) := by kernel_rfl
theorem Sm.trans {L L2 L3 : List Sy} {rk : Nat → Nat} (h1 : Sm L rk L2) (h2 : Sm L2 rk L3) : Sm L rk L3 := ⟨h2.len.trans h1.len, fun hx => h2.rt (h1.rt hx), fun x => (h2.us x).trans (h1.us x), h2.rank⟩
theorem own_keep {W W' : World} {base e sz n : Nat} {v : Value} {xs : List Value} (h : W.ownsRow base e sz v n xs) (hk : ∀ k, base ≤ k → k < W.heap.size → W'.heap[k]? = W.heap[k]?) : W'.ownsRow base e sz v n xs := by
  refine ⟨h.1, ?_⟩
  rcases h.2 with hn | ⟨g, cap, cur, rfl, hb, hgg, rest⟩
  · exact .inl hn
  · exact .inr ⟨g, cap, cur, rfl, hb, (hk g hb (Array.getElem?_eq_some_iff.1 hgg).1).trans hgg, rest⟩
theorem own_Kp {W W' : World} {B base e sz n : Nat} {v : Value} {xs : List Value} (h : W.ownsRow base e sz v n xs) (hB : B < base) (hk : Kp B W W') : W'.ownsRow base e sz v n xs :=
  own_keep h fun k hb hl => hk.1.2 k hl (by omega) (by simp)
set_option maxHeartbeats 16000000 in
set_option maxRecDepth 100000 in
theorem implMerged (W : World) (N : Nat) (A : Option Addr) (c : Nat) (xs : List S30) (v u : Value) (ps : List (Nat × Nat)) (S : List Nat) (hC : Kd.C k30 W A xs.length xs) (hc : xs.length ≤ c) (hn : xs.length ≤ 200) (hpos : 0 < xs.length)
    (hU : ∀ x ∈ xs, 0 ≤ x.f1 ∧ x.f1 < 4294967296)
    (g0 : W.cell? ⟨0, 0, none⟩ = some (.int .u32 4294967295)) (g1 : W.cell? ⟨0, 1, none⟩ = some (.int .u32 4294967295))
    (hp : PR W N v ps) (hu : RA W N u S.length (cellsN S)) (hN : N ≤ W.heap.size) (hps : ∀ p ∈ ps, p.1 < xs.length ∧ p.2 < xs.length) (hl : ps.length ≤ 800) (hS : ∀ x ∈ S, x < xs.length) (hSl : S.length ≤ 800) :
    Calls Tryd.prog 7 #[.slice A xs.length c, v, u] W (ImpPost W xs ps S) := by
  have h0 := World.block_lt_of_cell? W _ g0
  have hb2 : Below W.heap.size W ((W.alloc (.cells #[.slice A xs.length c] 22)).alloc (.cells #[.func (.func 12) #[] #[.pointer (some ⟨W.heap.size, 0, none⟩)]] 40)) := ((Below.refl _ _).alloc (Nat.le_refl _) _).alloc (by simp) _
  have he : Env ((W.alloc (.cells #[.slice A xs.length c] 22)).alloc (.cells #[.func (.func 12) #[] #[.pointer (some ⟨W.heap.size, 0, none⟩)]] 40)) W.heap.size (W.heap.size + 1) xs.length := by
    refine ⟨⟨A, c, ?_⟩, ?_⟩
    · exact blk_cell (alloc_old (heap_alloc_new W _)) 0
    · exact blk_cell (alloc_at (k := W.heap.size + 1) (by simp)) 0
  have HE := Lib.hid he
  have HB := Lib.hid hb2
  have HC := Lib.hid hC
  have HU := Lib.hid hU
  have HG0 := Lib.hid g0
  have HG1 := Lib.hid g1
  have HP := Lib.hid hp
  have HA := Lib.hid hu
  have HPS := Lib.hid hps
  have HS := Lib.hid hS
  have KP := Lib.hid (hasP _ W.heap.size (W.heap.size + 1) xs.length N v ps he (hp.keep (fun g hg => hb2.block g (by omega))) (by have := hb2.size; omega) hps (by omega))
  clear he hb2 hC hU g0 g1 hp hu hps hS
  go_enter Tryd.func7, Tryd.ntmps7
  go_wp2_with (go_at_call 13; refine (KP.out).mono ?_)
  rintro e w1 rfl hb1
  have hb1 : Below ((W.alloc (.cells #[.slice A xs.length c] 22)).alloc (.cells #[.func (.func 12) #[] #[.pointer (some ⟨W.heap.size, 0, none⟩)]] 40)).heap.size ((W.alloc (.cells #[.slice A xs.length c] 22)).alloc (.cells #[.func (.func 12) #[] #[.pointer (some ⟨W.heap.size, 0, none⟩)]] 40)) w1 := by simpa using hb1
  have HE1 := Lib.hid (HE.out.keep hb1)
  have HB1 := Lib.hid (HB.out.trans (hb1.mono HB.out.size))
  have HF1 := Lib.hid ((hb1.cell (by exact World.block_lt_of_cell? _ _ (blk_cell (alloc_old (heap_alloc_new W (.cells #[.slice A xs.length c] 22))) 0))).trans (blk_cell (alloc_old (o := .cells #[.func (.func 12) #[] #[.pointer (some ⟨W.heap.size, 0, none⟩)]] 40) (heap_alloc_new W (.cells #[.slice A xs.length c] 22))) 0))
  clear hb1 HE KP HB
  have o1 := HE1.out.o
  have hsz1 : W.heap.size ≤ w1.heap.size := HB1.out.size
  have KA := Lib.hid (hasN _ W.heap.size (W.heap.size + 1) xs.length N u S HE1.out (HA.out.keep (fun g hg => HB1.out.block g (by omega))) (by omega) HS.out (by omega))
  go_wp2_with (go_at_call 15; refine (KA.out).mono ?_)
  rintro e w2 ⟨rfl, hb2⟩
  have f2 : w2.cell? ⟨W.heap.size, 0, none⟩ = some (.slice A xs.length c) := by
    have f1 : w1.cell? ⟨W.heap.size, 0, none⟩ = some (.slice A xs.length c) := HF1.out
    exact (hb2.cell (by exact World.block_lt_of_cell? _ _ f1)).trans f1
  have HB2 := Lib.hid (HB1.out.trans (hb2.mono hsz1))
  clear hb2 HE1 KA HB1 o1 HF1
  have hlt2 : W.heap.size < w2.heap.size := World.block_lt_of_cell? _ _ f2
  have h0' : 0 < W.heap.size := h0
  have KT := Lib.hid (table w2 A c xs (Kd.C_below HC.out HB2.out) hc hn ((HB2.out.cell (by exact h0)).trans HG0.out) ((HB2.out.cell (by exact h0)).trans HG1.out))
  go_wp2_with (go_at_call 16; refine (KT.out).mono ?_)
  rintro e w3 ⟨SB, rfl, hle, hte, hb3⟩
  have hT : ∃ B cap, w2.heap.size ≤ B ∧ Tab w3 SB B cap (xs.map toSy) := by
    rcases hte with ⟨h, _⟩ | h
    · have : xs.length = 0 := by simpa using congrArg List.length h
      omega
    · exact h
  obtain ⟨B, cap, hB, hT⟩ := hT
  have HB3 := Lib.hid (HB2.out.trans (hb3.mono (Nat.le_of_lt hlt2)))
  have hlt3 : B < w3.heap.size := hT.blt
  have hT0 := hT
  have hkb : Below w3.heap.size w3 (w3.alloc (.cells #[.slice (some ⟨SB, 0, none⟩) 1 1] 46)) := (Below.refl _ _).alloc (Nat.le_refl _) _
  have HT4 := Lib.hid (hT.keep hkb)
  have HB4 := Lib.hid (HB3.out.trans (hkb.mono (by have := hb3.size; omega)))
  have HM4 := Lib.hid (heap_alloc_new w3 (.cells #[.slice (some ⟨SB, 0, none⟩) 1 1] 46))
  have HA0 := Lib.hid (agree_start xs HU.out)
  have hMB : w3.heap.size < (w3.alloc (.cells #[.slice (some ⟨SB, 0, none⟩) 1 1] 46)).heap.size := by simp
  have hWB : W.heap.size < B := by omega
  clear hb3 hT hte KT f2 HB3 hkb
  obtain ⟨PA, pcap, rfl, hpc, hpat⟩ := HP.out
  have HPAT := Lib.hid hpat
  clear hpat
  go_wp2_with (fail)
  generalize w3.alloc (.cells #[.slice (some ⟨SB, 0, none⟩) 1 1] 46) = w4 at HT4 HB4 HM4 hMB ⊢
  have hSM : SB < w3.heap.size := (Array.getElem?_eq_some_iff.1 hT0.sb).1
  generalize w3.heap.size = MB at *
  go_loopw [29] (fun v29 wr => ∃ (j : Nat) (L : List Sy), v29 = .int .i64 j ∧ j ≤ ps.length ∧ Hid (Tab wr SB B cap L) ∧ Hid (Agree L xs (ps.take j)) ∧ Hid (Kp B w4 wr)) (fun v29 _ => ps.length - (intOf v29).toNat)
  case atStart => exact ⟨0, _, rfl, Nat.zero_le _, HT4, HA0, Lib.hid (Kp.refl _ _)⟩
  case round =>
    obtain ⟨j, L, rfl, hjl, HT, HAG, HK⟩ := hrel
    clear HT4 HA0
    by_cases hlt : j < ps.length
    · have hlt' : (j : Int) < ps.length := by omega
      obtain ⟨pb, rfl, hpb, c1, c2⟩ := HPAT.out j hlt
      obtain ⟨ha, hb⟩ := HPS.out _ (List.getElem_mem hlt)
      have hpp : wr.heap[pb]? = W.heap[pb]? := (HK.out.1.2 pb (by omega) (by omega) (by simp)).trans (HB4.out.block pb (by omega))
      have c1 := (cell_of (j := j * 2) hpp).trans c1
      have c2 := (cell_of (j := j * 2 + 1) hpp).trans c2
      have HAM := Lib.hid (fun (L' : List Sy) (rk rk' : Nat → Nat) (q : Nat) => agree_merge (L := L) (L' := L') (rk := rk) (rk' := rk') (q := q) HAG.out hlt ha hb)
      generalize (ps[j]).1 = a at *
      generalize (ps[j]).2 = b at *
      go_wp2_with (fail)
      have hst : St w4 (wr.alloc (.cells #[.int .i64 a, .int .i64 b] 39)) MB wr.heap.size a b SB B cap L := by
        have hb5 : Below wr.heap.size wr (wr.alloc (.cells #[.int .i64 a, .int .i64 b] 39)) := (Below.refl _ _).alloc (Nat.le_refl _) _
        refine ⟨alloc_old (HK.out.blk HM4.out (by omega)), heap_alloc_new wr _, HT.out.keep hb5, HK.out.trans (Kp.of_below (Nat.le_of_lt HT.out.blt) hb5), by omega⟩
      have HST := Lib.hid hst.drew
      clear hst c1 c2
      obtain ⟨rk, hrk⟩ := HAG.out.2
      have hra : R L a ((stands xs.length (ps.take j)).getD a 0) := HAG.out.1.st a (by rw [stands_len]; exact ha)
      have hrb : R L b ((stands xs.length (ps.take j)).getD b 0) := HAG.out.1.st b (by rw [stands_len]; exact hb)
      have HRK := Lib.hid hrk
      have HRA := Lib.hid hra
      have HRB := Lib.hid hrb
      clear hrk hra hrb
      have ha32 : a < 4294967296 := by omega
      have hb32 : b < 4294967296 := by omega
      have wj : IntKind.i64.wrap ((j : Int) + 1) = ((j + 1 : Nat) : Int) := by rw [IntKind.wrap_i64]; omega
      generalize wr.alloc (.cells #[.int .i64 a, .int .i64 b] 39) = W2 at HST ⊢
      generalize wr.heap.size = PB at HST ⊢
      have m0 : W2.cell? ⟨MB, 0, none⟩ = some (.slice (some ⟨SB, 0, none⟩) 1 1) := blk_cell HST.out.m 0
      have p0 : W2.cell? ⟨PB, 0, none⟩ = some (.int .i64 a) := blk_cell HST.out.p 0
      have p1 : W2.cell? ⟨PB, 1, none⟩ = some (.int .i64 b) := blk_cell HST.out.p 1
      go_region_with (first
        | (go_at_call 18; (first | refine (refC a ha32 _).mono ?_ | refine (refC b hb32 _).mono ?_); rintro e w5 ⟨rfl, hb5⟩; have hst5 := HST.out.below hb5; clear HST; have HST := Lib.hid hst5; clear hst5 hb5; have m0 : w5.cell? ⟨MB, 0, none⟩ = some (.slice (some ⟨SB, 0, none⟩) 1 1) := blk_cell HST.out.m 0; have p0 : w5.cell? ⟨PB, 0, none⟩ = some (.int .i64 a) := blk_cell HST.out.p 0; have p1 : w5.cell? ⟨PB, 1, none⟩ = some (.int .i64 b) := blk_cell HST.out.p 1)
        | (go_at_call 17; refine (merge SB B cap _ a b _ _ _ L rk rfl HRK.out HRA.out HRB.out HST.out.tab).mono ?_; rintro e w7 ⟨q, L', rk', rfl, hp, ht, hk⟩; have HK7 := Lib.hid (HST.out.kp.trans hk); have HT7 := Lib.hid ht; have HA7 := Lib.hid (HAM.out L' rk rk' q hp); clear HST hp ht hk))
      all_goals
        go_wp2_with (fail)
        go_roundw
        case rel => exact ⟨j + 1, L', by simp [wj], by omega, HT7, HA7, HK7⟩
        case measure =>
          simp only [intOf]
          omega
    · have hlt' : ¬ (j : Int) < ps.length := by omega
      obtain rfl : j = ps.length := by omega
      rw [List.take_length] at HAG
      obtain ⟨rk0, hrk0⟩ := HAG.out.2
      obtain ⟨UA, ucap, rfl, huc, huat⟩ := HA.out
      have HUAT := Lib.hid huat
      clear huat
      have HRK0 := Lib.hid hrk0
      clear hrk0
      have HK0 := HK
      have HT0 := HT
      clear HK HT
      generalize hqw : wr.heap.size = Q at *
      have hBQ : B < Q := by rw [← hqw]; exact HT0.out.blt
      have h4Q : w4.heap.size ≤ Q := by rw [← hqw]; exact HK0.out.size
      have hMQ : MB < Q := by rw [← hqw]; have := HK0.out.size; omega
      go_wp2_with (fail)
      go_loopw [6, 44] (fun v6 v44 wr => ∃ (x : Nat) (L2 : List Sy), v44 = .int .i64 x ∧ x ≤ S.length ∧ Hid (Tab wr SB B cap L2) ∧ Hid (Sm L rk0 L2) ∧ Hid (Kp B w4 wr) ∧ Q ≤ wr.heap.size ∧ Hid (wr.ownsRow Q 3 1 v6 x (cellsN ((S.take x).map fun i => (stands xs.length ps).getD i 0)))) (fun _ v44 _ => S.length - (intOf v44).toNat)
      case atStart => exact ⟨0, L, rfl, Nat.zero_le _, HT0, Lib.hid (Sm.refl HRK0.out), HK0, Nat.le_of_eq hqw.symm, Lib.hid (World.ownsRow_nil _ _ _ _)⟩
      case round =>
        obtain ⟨x, L2, rfl, hxl, HT, HSM, HK, hqs, HO⟩ := hrel
        clear HT0 HK0
        have hmb : wr.heap[MB]? = some (.cells #[.slice (some ⟨SB, 0, none⟩) 1 1] 46 (0, 0)) := HK.out.blk HM4.out (by omega)
        by_cases hx : x < S.length
        · have hx' : (x : Int) < S.length := by omega
          have x0 : (0 : Int) ≤ x := by omega
          obtain ⟨ug, rfl, hug, c1⟩ := HUAT.out x hx
          have hsx : S[x] < xs.length := HS.out _ (List.getElem_mem hx)
          have hpp : wr.heap[ug]? = W.heap[ug]? := (HK.out.1.2 ug (by omega) (by omega) (by simp)).trans (HB4.out.block ug (by omega))
          have c1 : wr.cell? ⟨ug, x, none⟩ = some (.int .i64 S[x]) := (cell_of hpp).trans (c1.trans (by simp [cellsN, hx]))
          have HTK := Lib.hid (List.take_succ_eq_append_getElem hx)
          generalize S[x] = a at *
          have ha32 : a < 4294967296 := by omega
          have hra := HSM.out.rt (HAG.out.1.st a (by rw [stands_len]; exact hsx))
          have hrl : (stands xs.length ps).getD a 0 < 200 := by
            obtain ⟨n, hn'⟩ := hra
            have h1 := hn'.root.1
            have h2 := HT.out.n
            omega
          have HRA := Lib.hid hra
          clear hra
          generalize hrr : (stands xs.length ps).getD a 0 = r at HRA hrl
          have r0 : (0 : Int) ≤ r := by omega
          have r1 : (r : Int) < 200 := by omega
          have wr' : IntKind.i64.wrap (r : Int) = (r : Int) := by rw [IntKind.wrap_i64]; omega
          have wx : IntKind.i64.wrap ((x : Int) + 1) = ((x + 1 : Nat) : Int) := by rw [IntKind.wrap_i64]; omega
          have hk63 : x + 1 ≤ maxLen := by unfold maxLen; omega
          have hkb : (x + 1) * 8 ≤ 140737488355328 := by omega
          obtain ⟨i0, hi, hz0, hz1, hz2⟩ := info_parts info3
          have m0 : wr.cell? ⟨MB, 0, none⟩ = some (.slice (some ⟨SB, 0, none⟩) 1 1) := blk_cell hmb 0
          have HMB := Lib.hid hmb
          have HTd := Lib.hid (show Tab wr.drew SB B cap L2 from HT.out.drewN 1)
          have HKd := Lib.hid (show Kp B w4 wr.drew from HK.out.drewN 1)
          have HOd := Lib.hid (show wr.drew.ownsRow Q 3 1 u6 x (cellsN ((S.take x).map fun i => (stands xs.length ps).getD i 0)) from HO.out)
          have HMd := Lib.hid (show wr.drew.heap[MB]? = some (.cells #[.slice (some ⟨SB, 0, none⟩) 1 1] 46 (0, 0)) from hmb)
          clear HT HK HO hmb
          go_wp2_with (fail)
          clear c1
          have hqd : Q ≤ wr.drew.heap.size := hqs
          have hfd : ∀ w : World, (Instr.field 49 (.agg #[.int .u32 0, .int .u32 r]) 1).run Tryd.prog w = .ok (.int .u32 r) w := fun _ => by kernel_rfl
          go_region_held3 (fun w' => w'.cell? ⟨MB, 0, none⟩ = some (.slice (some ⟨SB, 0, none⟩) 1 1))
            (go_keep)
            ((first
              | (go_at_call 18; refine (refC a ha32 _).mono ?_; rintro e w5 ⟨rfl, hb5⟩
                 have hb5 : Below wr.drew.heap.size wr.drew w5 := hb5
                 have m0 : w5.cell? ⟨MB, 0, none⟩ = some (.slice (some ⟨SB, 0, none⟩) 1 1) := blk_cell ((hb5.block _ (Array.getElem?_eq_some_iff.1 HMd.out).1).trans HMd.out) 0
                 have HT5 := Lib.hid (HTd.out.keep hb5)
                 have HM5 := Lib.hid ((hb5.block _ (Array.getElem?_eq_some_iff.1 HMd.out).1).trans HMd.out)
                 have HK5 := Lib.hid (HKd.out.trans (Kp.of_below (Nat.le_of_lt HTd.out.blt) hb5))
                 have HO5 := Lib.hid (own_keep HOd.out (fun k _ hk => hb5.block k hk))
                 have hq5 : Q ≤ w5.heap.size := Nat.le_trans hqd hb5.size
                 clear hb5)
              | (go_at_call 19; refine (follow SB B cap _ a r _ L2 rk0 rfl HSM.out.rank HRA.out HT5.out).mono ?_; rintro e w6 ⟨L3, rfl, hs6, ht6, hk6⟩
                 have m0 : w6.cell? ⟨MB, 0, none⟩ = some (.slice (some ⟨SB, 0, none⟩) 1 1) := blk_cell (hk6.blk HM5.out (by omega)) 0
                 have HT6 := Lib.hid ht6
                 have HK6 := Lib.hid (HK5.out.trans hk6)
                 have hO6 := own_Kp HO5.out hBQ hk6
                 have hq6 : Q ≤ w6.heap.size := Nat.le_trans hq5 hk6.size
                 have HM6 := Lib.hid (hk6.blk HM5.out (by omega))
                 have HS6 := Lib.hid hs6
                 clear hs6 ht6 hk6)
              | (refine step_append_lies _ (by rfl) _ _ _ (by rfl) Q 3 i0 _ 1 8 Tryd.underlying23 hi hz0 hz1 hz2 rfl (by omega) u6 x (cellsN ((S.take x).map fun i => (stands xs.length ps).getD i 0)) (by rfl) (hO6.alloc _)
                   ⟨w6.heap.size, 0, none⟩ 1 1 [.int .i64 r] (by rfl) (by rfl) (World.news_of_block (cs := #[.int .i64 r]) (t := 3) (fr := (0, 0)) (heap_alloc_new w6 _)) (by simp [Value.oneCell'])
                   (by omega) hk63 hkb (by simp; omega) (w6.heap.size + 1) (by simp) ?_; intro gg cap7 w7 hown7 hgrow7 hat7 hlt7
                 have m0 : w7.cell? ⟨MB, 0, none⟩ = some (.slice (some ⟨SB, 0, none⟩) 1 1) := (hgrow7.cell_far ⟨MB, 0, none⟩ (by simp; have := (Array.getElem?_eq_some_iff.1 HM6.out).1; omega) (own_ne hO6 (by omega))).trans ((cell_of (Below.heap_alloc w6 _ MB (Array.getElem?_eq_some_iff.1 HM6.out).1)).trans (blk_cell HM6.out 0)))))
          have hb7 : Below Q w6 w7 := ((Below.refl Q w6).alloc hq6 (.cells #[.int .i64 r] 3)).grown hgrow7 (by simp; omega) (own_base hO6)
          have hT7 : Tab w7 SB B cap L3 := by
            obtain ⟨cs, hc, hr⟩ := HT6.out.row
            exact ⟨(hb7.block SB (by omega)).trans HT6.out.sb, ⟨cs, (hb7.block B hBQ).trans hc, hr⟩, (cell_of (hb7.block 0 (by omega))).trans HT6.out.g0, (cell_of (hb7.block 0 (by omega))).trans HT6.out.g1, HT6.out.ne, HT6.out.b0, HT6.out.n⟩
          have hK7 : Kp B w4 w7 := ⟨⟨by have h1 := hgrow7.size; have h2 := HK6.out.1.1; simp at h1; omega, fun k hk hne hn => (hb7.block k (by omega)).trans (HK6.out.1.2 k hk hne hn)⟩, HK6.out.2.trans (hb7.mono (Nat.le_of_lt hBQ))⟩
          have HT7 := Lib.hid hT7
          have HK7 := Lib.hid hK7
          have HS7 := Lib.hid HS6.out
          have HO7 := Lib.hid (show w7.ownsRow Q 3 1 (.slice (some ⟨gg, 0, none⟩) (x + 1) cap7) (x + 1) (cellsN ((S.take (x + 1)).map fun i => (stands xs.length ps).getD i 0)) by
            rw [HTK.out, List.map_append, cellsN, List.map_append]
            have := hown7
            rw [← hrr] at this
            exact this)
          have hq7 : Q ≤ w7.heap.size := Nat.le_trans hq6 (by have := hgrow7.size; simp at this; omega)
          clear hown7 hgrow7 hb7 hT7 hK7 hat7
          go_wp2_with (fail)
          go_roundw
          case rel => exact ⟨x + 1, L3, by simp [wx], by omega, HT7, Lib.hid (HSM.out.trans HS7.out), HK7, hq7, HO7⟩
          case measure =>
            simp only [intOf]
            omega
        · have hx' : ¬ (x : Int) < S.length := by omega
          obtain rfl : x = S.length := by omega
          rw [List.take_length] at HO
          have hL2 : L2.length = xs.length := by rw [HSM.out.len]; have := HAG.out.1.len; rw [stands_len] at this; exact this
          have m0 : wr.cell? ⟨MB, 0, none⟩ = some (.slice (some ⟨SB, 0, none⟩) 1 1) := blk_cell hmb 0
          have sb0 : wr.cell? ⟨SB, 0, none⟩ = some (.slice (some ⟨B, 0, none⟩) L2.length cap) := blk_cell HT.out.sb 0
          clear hmb
          have HT3 := HT
          have HO3 := HO
          clear HT HO
          go_wp2_with (fail)
          generalize hq2 : wr.heap.size = Q2 at *
          generalize hw5 : wr = W5 at *
          go_loopw [7, 63] (fun v7 v63 wr => ∃ y : Nat, v63 = .int .i64 y ∧ y ≤ L2.length ∧ Hid (Below Q2 W5 wr) ∧ Hid (wr.ownsRow Q2 30 4 v7 y (cells30 (L2.take y)))) (fun _ v63 _ => L2.length - (intOf v63).toNat)
          case atStart => exact ⟨0, rfl, Nat.zero_le _, by rw [← hw5]; exact Lib.hid (Below.refl _ _), Lib.hid (World.ownsRow_nil _ _ _ _)⟩
          case round =>
            obtain ⟨y, rfl, hyl, HB, HO⟩ := hrel
            by_cases hy : y < L2.length
            · have hy' : (y : Int) < L2.length := by omega
              have y0 : (0 : Int) ≤ y := by omega
              have hBq2 : B < Q2 := by omega
              have hs := List.getElem?_eq_getElem hy
              have HTK := Lib.hid (List.take_succ_eq_append_getElem hy)
              generalize L2[y] = s at hs HTK
              have key : ∀ f, f < 10 → wr.cell? ⟨B, y * 10 + f, none⟩ = (cellsS s)[f]? := fun f hf => (HB.out.cell (by exact hBq2)).trans (HT3.out.cell hs hf)
              have e0 : wr.cell? ⟨B, y * 10, none⟩ = some (.pointer none) := key 0 (by decide)
              have e1 : wr.cell? ⟨B, y * 10 + 1, none⟩ = some (.string s.nm) := key 1 (by decide)
              have e2 : wr.cell? ⟨B, y * 10 + 2, none⟩ = some (.int .u32 (lk0 s.link)) := key 2 (by decide)
              have e3 : wr.cell? ⟨B, y * 10 + 3, none⟩ = some (.int .u32 (lk1 s.link)) := key 3 (by decide)
              have e4 : wr.cell? ⟨B, y * 10 + 4, none⟩ = some (.int .u32 s.uses) := key 4 (by decide)
              have e5 : wr.cell? ⟨B, y * 10 + 5, none⟩ = some (.int .u32 0) := key 5 (by decide)
              have e6 : wr.cell? ⟨B, y * 10 + 6, none⟩ = some (.int .u32 0) := key 6 (by decide)
              have e7 : wr.cell? ⟨B, y * 10 + 7, none⟩ = some (.int .u16 s.fl) := key 7 (by decide)
              have e8 : wr.cell? ⟨B, y * 10 + 8, none⟩ = some (.int .u8 s.kd) := key 8 (by decide)
              have e9 : wr.cell? ⟨B, y * 10 + 9, none⟩ = some (.int .u8 0) := key 9 (by decide)
              clear key
              generalize lk0 s.link = l0 at e2
              generalize lk1 s.link = l1 at e3
              obtain ⟨i0, hi, hz0, hz1, hz2⟩ := info_parts info30
              have hq9 : Q2 ≤ wr.heap.size := by have := HB.out.size; omega
              go_wp2_with (at_builtin; refine wpList_append_own _ rfl (.tmp 67) (.tmp 79) 22 rfl Q2 30 i0 (.agg #[.string ⟨#[]⟩, .int .u32 0, .int .i64 0, .int .i64 0]) 4 40 Tryd.underlying22 hi hz0 hz1 hz2 rfl (by decide) _ y _ rfl ((HO.out.alloc _).alloc _) ⟨wr.heap.size + 1, 0, none⟩ 1 1 [.string s.nm, .int .u32 s.uses, .int .i64 (wrap64 s.fl), .int .i64 (wrap64 s.kd)] rfl rfl ?n1 (by intro u hu; simp only [List.mem_cons, List.not_mem_nil, or_false] at hu; rcases hu with rfl | rfl | rfl | rfl <;> rfl) (by unfold maxLen; omega) (by omega) (by simp; omega) ?_)
              case n1 =>
                intro j u h
                have := World.news_of_block (w := (wr.alloc (.cells #[.pointer none, .string s.nm, .int .u32 l0, .int .u32 l1, .int .u32 s.uses, .int .u32 0, .int .u32 0, .int .u16 s.fl, .int .u8 s.kd, .int .u8 0] 62)).alloc (.cells #[.string s.nm, .int .u32 s.uses, .int .i64 (wrap64 s.fl), .int .i64 (wrap64 s.kd)] 30)) (B := wr.heap.size + 1) (alloc_at (by simp)) j u h
                exact this
              intro v' w7 hown7 hgrow7 _
              have HB7 := Lib.hid (show Below Q2 W5 w7 from ((HB.out.alloc hq9 _).alloc (by simp; omega) _).grown hgrow7 (by simp; omega) (own_base HO.out))
              have HO7 := Lib.hid (show w7.ownsRow Q2 30 4 v' (y + 1) (cells30 (L2.take (y + 1))) by
                rw [HTK.out]
                simpa [cells30] using hown7)
              clear hown7 hgrow7
              have wy : IntKind.i64.wrap ((y : Int) + 1) = ((y + 1 : Nat) : Int) := by rw [IntKind.wrap_i64]; omega
              go_wp2_with (fail)
              go_roundw
              case rel => exact ⟨y + 1, by simp [wy], by omega, HB7, HO7⟩
              case measure =>
                simp only [intOf]
                omega
            · have hy' : ¬ (y : Int) < L2.length := by omega
              obtain rfl : y = L2.length := by omega
              rw [List.take_length] at HO
              have HAG2 := Lib.hid (HAG.out.sm HSM.out)
              have HR1 := Lib.hid ((RA.of_own HO3.out).keep (fun g hg => HB.out.block g (by omega)))
              go_wp2_with (fail)
              go_ret2
              exact ⟨u6, u7, L2, rfl, HR1.out.mono HB.out.size, RS.of_own HO.out, HAG2.out, (HB4.out.trans (HK.out.2.mono (Nat.le_of_lt hWB))).trans (HB.out.mono (by omega))⟩
end Go.Proofs.YtlhepbgonecgpaaDoor.fnMergedUses
