/-
  impl.pieces: the parts of a template become nodes.
  Conditions: none.
-/
import Derived.Test.YtacokmkbikdmmaaGreatDoorProps
import Derived.Test.YtacokmkbikdmmaaGreatDoorLeaf
import Derived.Test.YtacokmkbikdmmaaGreatDoorWLast
namespace Go.Proofs.YtacokmkbikdmmaaGreatDoor.trees
open Go Go.RowKit
set_option linter.unusedVariables false
set_option linter.unusedSimpArgs false

attribute [local go_sem] run_store_float
theorem info213 : (Tryz.prog.info? 213).map (fun i => (i.zero, i.size, i.bytes)) = some (some (.agg #[.nilIface, .int .i32 0, .string ⟨#[]⟩, .slice none 0 0, .int .i32 0]), 5, 72) := by kernel_rfl
set_option maxHeartbeats 8000000 in
set_option maxRecDepth 100000 in
theorem pieces (n : Nat) (IH : NodeOK n) (A : Option Addr) (len cap N : Nat) (W W1 : World) (hr : rows W N 3 A len cap (PartR C2 N W n)) (hl : len ≤ 200) (h0 : Below N W W1) (hN : N ≤ W.heap.size) : Calls Tryz.prog 61 #[.slice A len cap] W1 (fun e w' => RowsP W1.heap.size 213 5 len W1 e w') := by
  obtain ⟨i0, hi, hz0, hz1, hz2⟩ := info_parts info213
  have HR := Lib.hid (⟨hr, IH, h0, hl⟩ : _ ∧ _ ∧ _ ∧ _)
  clear hr IH h0
  go_enter Tryz.func61, Tryz.ntmps61
  go_wp2_with (fail)
  go_loopw [4, 11] (fun v4 v11 wq => ∃ (i : Nat) (xs : List Value), v11 = .int .i64 (i : Int) ∧ i ≤ len ∧ Hid (wq.ownsRow W1.heap.size 213 5 v4 i xs) ∧ Hid (Below W1.heap.size W1 wq)) (fun _ v11 _ => len - (intOf v11).toNat)
  case atStart => exact ⟨0, [], rfl, Nat.zero_le _, Lib.hid (World.ownsRow_nil _ _ _ _), Lib.hid (Below.refl _ _)⟩
  case round =>
    obtain ⟨i, xs, rfl, hil, HO, HB⟩ := hrel
    have HBI := Lib.hid (bl HR.out.2.2.1 hN HB.out)
    by_cases hlt : i < len
    · have x0 : (0 : Int) ≤ (i : Int) := by omega
      have x1 : (i : Int) < (len : Int) := by omega
      have wi : wrap64 ((i : Int) + 1) = ((i + 1 : Nat) : Int) := by unfold wrap64; omega
      obtain ⟨gk, ok, csk, eAk, hgk, _, hEk, hck, hstk⟩ := (HR.out.1).at hlt
      obtain ⟨va1, vn1, vc1, sa1, sn1, sc1, t1, rfl, hqq, hrv, hrs⟩ := hEk
      obtain ⟨rfl, hs1⟩ : vn1 = 1 ∧ sn1 ≤ 1000 := hqq
      have k0 := inp HBI.out hgk (hck 0 _ rfl)
      rw [Nat.add_zero] at k0
      have k1 := inp HBI.out hgk (hck 1 _ rfl)
      have k2 := inp HBI.out hgk (hck 2 _ rfl)
      have HE := Lib.hid (⟨hrv, hrs, hs1⟩ : _ ∧ _ ∧ _)
      have HI := Lib.hid (⟨hlt, wi, hl⟩ : _ ∧ _ ∧ _)
      clear hck hstk hrv hrs hs1 hil hlt wi hl
      rw [eAk]
      clear eAk
      go_upto_region 5 with (fail)
      have hPb := (Below.refl wr.heap.size wr).alloc (Nat.le_refl _) (.cells #[.slice va1 1 vc1, .slice sa1 sn1 sc1, .string t1] 55)
      have hP := heap_alloc_new wr (.cells #[.slice va1 1 vc1, .slice sa1 sn1 sc1, .string t1] 55)
      generalize wr.alloc (.cells #[.slice va1 1 vc1, .slice sa1 sn1 sc1, .string t1] 55) = w1 at hPb hP ⊢
      have p0 : w1.cell? ⟨wr.heap.size, 0, none⟩ = some (.slice va1 1 vc1) := blk_cell hP 0
      have p1 : w1.cell? ⟨wr.heap.size, 1, none⟩ = some (.slice sa1 sn1 sc1) := blk_cell hP 1
      have p2 : w1.cell? ⟨wr.heap.size, 2, none⟩ = some (.string t1) := blk_cell hP 2
      have HP := Lib.hid (⟨hP, hPb⟩ : _ ∧ _)
      clear hPb hP x0 x1 k0 k1 k2
      go_wp2_with (fail)
      refine (nodes n HR.out.2.1 va1 1 vc1 N W _ HE.out.1 (by omega) (bl0 HR.out.2.2.1 hN (hb2 HB.out HP.out.2)) hN).mono ?_
      rintro e w2 ⟨v1, ks1, rfl, ho1, hl1, hb1⟩
      have HP2 := Lib.hid (⟨ho1, hl1, (hb1.block _ (blk_lt HP.out.1)).trans HP.out.1, bl2 HP.out.2 hb1⟩ : _ ∧ _ ∧ _ ∧ _)
      clear ho1 hl1 hb1 p0 p1 p2
      have p0 : w2.cell? ⟨wr.heap.size, 0, none⟩ = some (.slice va1 1 vc1) := blk_cell HP2.out.2.2.1 0
      have p1 : w2.cell? ⟨wr.heap.size, 1, none⟩ = some (.slice sa1 sn1 sc1) := blk_cell HP2.out.2.2.1 1
      have p2 : w2.cell? ⟨wr.heap.size, 2, none⟩ = some (.string t1) := blk_cell HP2.out.2.2.1 2
      obtain ⟨A1, c1, rfl, hc1, _, hout1⟩ := own_outs HP2.out.1 HP2.out.2.1
      obtain ⟨q, hq⟩ : ∃ q, ks1 = [q] := by
        have := HP2.out.2.1
        match ks1, this with
        | [q], _ => exact ⟨q, rfl⟩
      obtain ⟨g2, rfl, m0, m1⟩ := hout1 0 q (by rw [hq]; rfl)
      rw [Nat.mul_zero] at m0 m1
      clear hq hout1
      have HA := Lib.hid HP2.out.2.2.2
      skip
      have hb3 : i + 1 ≤ 200 := by have := HI.out.1; have := HI.out.2.2; omega
      have HI3 := Lib.hid hb3
      clear hb3
      go_upto_region 8 with (fail)
      have HT0 := Lib.hid (show Below wr.heap.size wr w2.drew from HA.out.trans ⟨rfl, rfl, rfl, Nat.le_refl _, fun _ _ => rfl⟩)
      refine Go.Proofs.YtacokmkbikdmmaaGreatDoorW.PrintLast.start_ (n := 14) (S := (fun w' => w'.cell? ⟨wr.heap.size, 0, none⟩ = some (.slice va1 1 vc1) ∧ w'.cell? ⟨wr.heap.size, 1, none⟩ = some (.slice sa1 sn1 sc1) ∧ w'.cell? ⟨wr.heap.size, 2, none⟩ = some (.string t1) ∧ w'.cell? ⟨g2, 0, none⟩ = some (.iface q.1 (.pointer (some ⟨q.2, 0, none⟩))) ∧ w'.cell? ⟨g2, 1, none⟩ = some (.int .i32 0))) (ds := [12]) #[false, false, false, false, false, false, false, false, false, false, false, false, false, false] (by kernel_rfl) rfl rfl ⟨p0, p1, p2, m0, m1⟩ (fun hHeld0 => ?_)
      clear p0 p1 p2 m0 m1
      generalize w2.drew = wt0 at HT0 hHeld0 ⊢
      refine Go.Proofs.YtacokmkbikdmmaaGreatDoorW.PrintLast.pure_ (i := 0) (N := some 28) (v := ?_) (a' := ?_) #[true, false, false, false, false, false, false, false, false, false, false, false, false, false] rfl rfl (by kernel_rfl) (fun _ _ _ h => h) (Or.inl ⟨by rfl, ?_⟩) ?_ ?_
      rotate_left
      · intro w'
        go_simp
        with_reducible rfl
      rotate_left
      · simp only [Act.put, List.setIfInBounds_toArray, List.set_cons_zero, List.set_cons_succ]
        rfl
      refine Go.Proofs.YtacokmkbikdmmaaGreatDoorW.PrintLast.pure_ (i := 1) (N := some 29) (v := ?_) (a' := ?_) #[true, true, false, false, false, false, false, false, false, false, false, false, false, false] rfl rfl (by kernel_rfl) (fun _ _ _ h => h) (Or.inl ⟨by rfl, ?_⟩) ?_ ?_
      rotate_left
      · intro w'
        go_simp
        with_reducible rfl
      rotate_left
      · simp only [Act.put, List.setIfInBounds_toArray, List.set_cons_zero, List.set_cons_succ]
        rfl
      refine Go.Proofs.YtacokmkbikdmmaaGreatDoorW.PrintLast.pure_ (i := 2) (N := some 30) (v := ?_) (a' := ?_) #[true, true, true, false, false, false, false, false, false, false, false, false, false, false] rfl rfl (by kernel_rfl) (fun _ _ _ h => h) (Or.inl ⟨by rfl, ?_⟩) ?_ ?_
      rotate_left
      · intro w'
        go_simp
        with_reducible rfl
      rotate_left
      · simp only [Act.put, List.setIfInBounds_toArray, List.set_cons_zero, List.set_cons_succ]
        rfl
      refine Go.Proofs.YtacokmkbikdmmaaGreatDoorW.PrintLast.take_ (i := 3) (N := some 31) (v := ?_) (a' := ?_) #[true, true, true, true, false, false, false, false, false, false, false, false, false, false] rfl rfl (by kernel_rfl) (fun _ _ _ h => h) (Or.inl ⟨by rfl, ?_⟩) hHeld0 ?_ ?_
      rotate_left
      · rintro w' ⟨s0, s1, s2, s3, s4⟩
        go_simp
        with_reducible rfl
      rotate_left
      · simp only [Act.put, List.setIfInBounds_toArray, List.set_cons_zero, List.set_cons_succ]
        rfl
      refine Go.Proofs.YtacokmkbikdmmaaGreatDoorW.PrintLast.pure_ (i := 4) (N := some 32) (v := ?_) (a' := ?_) #[true, true, true, true, true, false, false, false, false, false, false, false, false, false] rfl rfl (by kernel_rfl) (fun _ _ _ h => h) (Or.inl ⟨by rfl, ?_⟩) ?_ ?_
      rotate_left
      · intro w'
        go_simp
        with_reducible rfl
      rotate_left
      · simp only [Act.put, List.setIfInBounds_toArray, List.set_cons_zero, List.set_cons_succ]
        rfl
      refine Go.Proofs.YtacokmkbikdmmaaGreatDoorW.PrintLast.take_ (i := 5) (N := some 33) (v := ?_) (a' := ?_) #[true, true, true, true, true, true, false, false, false, false, false, false, false, false] rfl rfl (by kernel_rfl) (fun _ _ _ h => h) (Or.inl ⟨by rfl, ?_⟩) hHeld0 ?_ ?_
      rotate_left
      · rintro w' ⟨s0, s1, s2, s3, s4⟩
        go_simp
        with_reducible rfl
      rotate_left
      · simp only [Act.put, List.setIfInBounds_toArray, List.set_cons_zero, List.set_cons_succ]
        rfl
      refine Go.Proofs.YtacokmkbikdmmaaGreatDoorW.PrintLast.pure_ (i := 7) (N := some 35) (v := ?_) (a' := ?_) #[true, true, true, true, true, true, false, true, false, false, false, false, false, false] rfl rfl (by kernel_rfl) (fun _ _ _ h => h) (Or.inl ⟨by rfl, ?_⟩) ?_ ?_
      rotate_left
      · intro w'
        go_simp
        with_reducible rfl
      rotate_left
      · simp only [Act.put, List.setIfInBounds_toArray, List.set_cons_zero, List.set_cons_succ]
        rfl
      refine Go.Proofs.YtacokmkbikdmmaaGreatDoorW.PrintLast.take_ (i := 8) (N := some 36) (v := ?_) (a' := ?_) #[true, true, true, true, true, true, false, true, true, false, false, false, false, false] rfl rfl (by kernel_rfl) (fun _ _ _ h => h) (Or.inl ⟨by rfl, ?_⟩) hHeld0 ?_ ?_
      rotate_left
      · rintro w' ⟨s0, s1, s2, s3, s4⟩
        go_simp
        with_reducible rfl
      rotate_left
      · simp only [Act.put, List.setIfInBounds_toArray, List.set_cons_zero, List.set_cons_succ]
        rfl
      refine Go.Proofs.YtacokmkbikdmmaaGreatDoorW.PrintLast.one_ (i := 6) (N := some 34) #[true, true, true, true, true, true, true, true, true, false, false, false, false, false] rfl rfl (by kernel_rfl) (by decide) (fun K hK => ?_)
      go_simp
      have hbt1 := (Below.refl wt0.heap.size wt0).alloc (Nat.le_refl _) (.cells #[] 81)
      have hnew := heap_alloc_new wt0 (.cells #[] 81)
      generalize wt0.alloc (.cells #[] 81) = wt1 at hbt1 hnew ⊢
      have HNEW := Lib.hid hnew
      clear hnew
      refine hK.out _ _ ⟨(hbt1.cell (World.block_lt_of_cell? _ _ hHeld0.1)).trans hHeld0.1, (hbt1.cell (World.block_lt_of_cell? _ _ hHeld0.2.1)).trans hHeld0.2.1, (hbt1.cell (World.block_lt_of_cell? _ _ hHeld0.2.2.1)).trans hHeld0.2.2.1, (hbt1.cell (World.block_lt_of_cell? _ _ hHeld0.2.2.2.1)).trans hHeld0.2.2.2.1, (hbt1.cell (World.block_lt_of_cell? _ _ hHeld0.2.2.2.2)).trans hHeld0.2.2.2.2⟩ (fun hHeld1 => ?_)
      clear hK K
      have HT1 := Lib.hid (hb2 HT0.out hbt1)
      have hbp := hbt1
      clear hbt1
      refine Go.Proofs.YtacokmkbikdmmaaGreatDoorW.PrintLast.one_ (i := 9) (N := some 37) #[true, true, true, true, true, true, true, true, true, true, false, false, false, false] rfl rfl (by kernel_rfl) (by decide) (fun K hK => ?_)
      have hown : wt1.ownsRow wt0.heap.size 81 1 (.slice (some ⟨wt0.heap.size, 0, none⟩) 0 0) 0 [] := ⟨rfl, .inr ⟨_, 0, #[], rfl, Nat.le_refl _, HNEW.out, Nat.le_refl _, by decide, rfl, rfl⟩⟩
      refine step_units rfl (.tmp 34) (.tmp 36) rfl wt0.heap.size _ rfl hown _ _ _ rfl (HE.out.2.1.imp (Nat.le_refl _) (below_cells (bl0 HR.out.2.2.1 hN (hb2 HB.out HT1.out))) (fun _ h => h)) (HE.out.2.2) (Nat.le_of_lt (blk_lt HNEW.out)) ?_
      intro vsB vsC vsX wt2 hown2 hgr
      have HU2 := Lib.hid hown2
      have hbt2 := hbp.grown hgr hbp.size (own_base hown)
      refine hK.out _ _ ⟨(hbt2.cell (World.block_lt_of_cell? _ _ hHeld0.1)).trans hHeld0.1, (hbt2.cell (World.block_lt_of_cell? _ _ hHeld0.2.1)).trans hHeld0.2.1, (hbt2.cell (World.block_lt_of_cell? _ _ hHeld0.2.2.1)).trans hHeld0.2.2.1, (hbt2.cell (World.block_lt_of_cell? _ _ hHeld0.2.2.2.1)).trans hHeld0.2.2.2.1, (hbt2.cell (World.block_lt_of_cell? _ _ hHeld0.2.2.2.2)).trans hHeld0.2.2.2.2⟩ (fun hHeld2 => ?_)
      clear hK K
      have HT2 := Lib.hid (hb2 HT0.out hbt2)
      clear hbt2 hbp hgr hown hown2 hHeld0 hHeld1
      refine Go.Proofs.YtacokmkbikdmmaaGreatDoorW.PrintLast.pure_ (i := 10) (N := some 38) (v := ?_) (a' := ?_) #[true, true, true, true, true, true, true, true, true, true, true, false, false, false] rfl rfl (by kernel_rfl) (fun _ _ _ h => h) (Or.inl ⟨by rfl, ?_⟩) ?_ ?_
      rotate_left
      · intro w'
        go_simp
        with_reducible rfl
      rotate_left
      · simp only [Act.put, List.setIfInBounds_toArray, List.set_cons_zero, List.set_cons_succ]
        rfl
      refine Go.Proofs.YtacokmkbikdmmaaGreatDoorW.PrintLast.one_ (i := 11) (N := some 39) #[true, true, true, true, true, true, true, true, true, true, true, true, false, false] rfl rfl (by kernel_rfl) (by decide) (fun K hK => ?_)
      go_simp
      have hbt3 := (Below.refl wt2.heap.size wt2).alloc (Nat.le_refl _) (.cells #[.iface q.1 (.pointer (some ⟨q.2, 0, none⟩)), .int .i32 0, .string t1, .slice vsB sn1 vsC, .int .i32 0] 213)
      have hnew := heap_alloc_new wt2 (.cells #[.iface q.1 (.pointer (some ⟨q.2, 0, none⟩)), .int .i32 0, .string t1, .slice vsB sn1 vsC, .int .i32 0] 213)
      generalize wt2.alloc (.cells #[.iface q.1 (.pointer (some ⟨q.2, 0, none⟩)), .int .i32 0, .string t1, .slice vsB sn1 vsC, .int .i32 0] 213) = wt3 at hbt3 hnew ⊢
      have HNEW := Lib.hid hnew
      clear hnew
      refine hK.out _ _ ⟨(hbt3.cell (World.block_lt_of_cell? _ _ hHeld2.1)).trans hHeld2.1, (hbt3.cell (World.block_lt_of_cell? _ _ hHeld2.2.1)).trans hHeld2.2.1, (hbt3.cell (World.block_lt_of_cell? _ _ hHeld2.2.2.1)).trans hHeld2.2.2.1, (hbt3.cell (World.block_lt_of_cell? _ _ hHeld2.2.2.2.1)).trans hHeld2.2.2.2.1, (hbt3.cell (World.block_lt_of_cell? _ _ hHeld2.2.2.2.2)).trans hHeld2.2.2.2.2⟩ (fun hHeld3 => ?_)
      clear hK K
      have HT3 := Lib.hid (hb2 HT2.out hbt3)
      clear hbt3 hHeld2
      refine Go.Proofs.YtacokmkbikdmmaaGreatDoorW.PrintLast.last_ (i := 12) (N := some 40) #[true, true, true, true, true, true, true, true, true, true, true, true, true, false] rfl rfl (by kernel_rfl) (by decide) (fun K hK => ?_)
      refine step_append_lies _ rfl (.tmp 28) (.tmp 39) 201 rfl W1.heap.size 213 i0 (.agg #[.nilIface, .int .i32 0, .string ⟨#[]⟩, .slice none 0 0, .int .i32 0]) 5 72 Tryz.underlying201 hi hz0 hz1 hz2 rfl (by decide) _ i xs rfl (own_below HO.out HT3.out) ⟨wt2.heap.size, 0, none⟩ 1 1 [.iface q.1 (.pointer (some ⟨q.2, 0, none⟩)), .int .i32 0, .string t1, .slice vsB sn1 vsC, .int .i32 0] rfl rfl (World.news_of_block HNEW.out) (by intro u hu; simp only [List.mem_cons, List.not_mem_nil, or_false] at hu; rcases hu with rfl | rfl | rfl | rfl | rfl <;> rfl) (by decide) (by have := HI3.out; unfold maxLen; omega) (by have := HI3.out; omega) (hb2 HB.out HT3.out).size wt3.heap.size rfl ?_
      intro vg vcap w9 hown hgr _ _
      have HO9 := Lib.hid hown
      have HB9 := Lib.hid ((hb2 HB.out HT3.out).grown hgr (hb2 HB.out HT3.out).size (own_base HO.out))
      clear hown hgr
      refine hK.out _ _ ?_
      clear hK K
      refine Go.Proofs.YtacokmkbikdmmaaGreatDoorW.PrintLast.pure_ (i := 13) (N := some 4) (v := ?_) (a' := ?_) #[true, true, true, true, true, true, true, true, true, true, true, true, true, true] rfl rfl (by kernel_rfl) (fun _ _ _ h => h) (Or.inl ⟨by rfl, ?_⟩) ?_ ?_
      rotate_left
      · intro w'
        go_simp
        with_reducible rfl
      rotate_left
      · simp only [Act.put, List.setIfInBounds_toArray, List.set_cons_zero, List.set_cons_succ]
        rfl
      refine Go.Proofs.YtacokmkbikdmmaaGreatDoorW.PrintLast.done_ (by kernel_rfl) ?_
      clear hHeld3
      go_upto_region 9 with (fail)
      have wi := HI.out.2.1
      go_wp2_with (fail)
      clear wi
      refine ⟨⟨i + 1, _, (by first | rfl | rw [HI.out.2.1]), HI.out.1, HO9, HB9⟩, ?_⟩
      have := HI.out.1
      first | rw [HI.out.2.1] | skip
      simp only [intOf]
      clear HI HI3
      omega
    · obtain rfl : i = len := by omega
      have e0 : ¬ ((i : Int) < (i : Int)) := by omega
      clear hlt hil
      go_wp2_with (fail)
      go_ret2
      exact ⟨_, xs, rfl, HO.out, HB.out⟩
end Go.Proofs.YtacokmkbikdmmaaGreatDoor.trees
