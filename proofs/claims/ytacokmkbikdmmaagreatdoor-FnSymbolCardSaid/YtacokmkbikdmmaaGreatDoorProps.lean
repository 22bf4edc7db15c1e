/-
  impl.properties: the properties of an object become nodes.
  Conditions: none.
-/
import Derived.Test.YtacokmkbikdmmaaGreatDoorNodes
namespace Go.Proofs.YtacokmkbikdmmaaGreatDoor.trees
open Go Go.RowKit
set_option linter.unusedVariables false
set_option linter.unusedSimpArgs false

attribute [local go_sem] run_store_float
theorem bl0 {N : Nat} {W W1 w2 : World} (h0 : Below N W W1) (hN : N ≤ W.heap.size) (h1 : Below W1.heap.size W1 w2) : Below N W w2 := bl h0 hN h1
theorem info238 : (Tryz.prog.info? 238).map (fun i => (i.zero, i.size, i.bytes)) = some (some (.agg #[.pointer none, .nilIface, .int .i32 0, .nilIface, .int .i32 0, .nilIface, .int .i32 0, .slice none 0 0, .int .i32 0, .int .i32 0, .int .u8 0, .int .u8 0]), 12, 120) := by kernel_rfl
def RowsP (B e sz len : Nat) (W1 : World) (en : Ending) (w' : World) : Prop := ∃ v xs, en = .returned (.tuple #[v, .bool true]) ∧ w'.ownsRow B e sz v len xs ∧ Below B W1 w'
set_option maxHeartbeats 8000000 in
set_option maxRecDepth 100000 in
theorem properties (n : Nat) (IH : NodeOK n) (A : Option Addr) (len cap N : Nat) (W W1 : World) (hr : rows W N 4 A len cap (PropR C2 N W n)) (hl : len ≤ 200) (h0 : Below N W W1) (hN : N ≤ W.heap.size) : Calls Tryz.prog 60 #[.slice A len cap] W1 (fun e w' => RowsP W1.heap.size 238 12 len W1 e w') := by
  obtain ⟨i0, hi, hz0, hz1, hz2⟩ := info_parts info238
  have HR := Lib.hid (⟨hr, IH, h0, hl⟩ : _ ∧ _ ∧ _ ∧ _)
  clear hr IH h0
  go_enter Tryz.func60, Tryz.ntmps60
  go_wp2_with (fail)
  go_loopw [4, 14] (fun v4 v14 wq => ∃ (i : Nat) (xs : List Value), v14 = .int .i64 (i : Int) ∧ i ≤ len ∧ Hid (wq.ownsRow W1.heap.size 238 12 v4 i xs) ∧ Hid (Below W1.heap.size W1 wq)) (fun _ v14 _ => len - (intOf v14).toNat)
  case atStart => exact ⟨0, [], rfl, Nat.zero_le _, Lib.hid (World.ownsRow_nil _ _ _ _), Lib.hid (Below.refl _ _)⟩
  case round =>
    obtain ⟨i, xs, rfl, hil, HO, HB⟩ := hrel
    have HBI := Lib.hid (bl HR.out.2.2.1 hN HB.out)
    by_cases hlt : i < len
    · have x0 : (0 : Int) ≤ (i : Int) := by omega
      have x1 : (i : Int) < (len : Int) := by omega
      have wi : wrap64 ((i : Int) + 1) = ((i + 1 : Nat) : Int) := by unfold wrap64; omega
      obtain ⟨gk, ok, csk, eAk, hgk, _, hEk, hck, hstk⟩ := (HR.out.1).at hlt
      obtain ⟨pk, pf, ka1, kn1, kc1, va1, vn1, vc1, rfl, hpp, hrk, hrv⟩ := hEk
      have k0 := inp HBI.out hgk (hck 0 _ rfl)
      rw [Nat.add_zero] at k0
      have k1 := inp HBI.out hgk (hck 1 _ rfl)
      have k2 := inp HBI.out hgk (hck 2 _ rfl)
      have k3 := inp HBI.out hgk (hck 3 _ rfl)
      obtain ⟨hk1, rfl, hpk⟩ : kn1 ≤ 1 ∧ vn1 = 1 ∧ _ := hpp
      have HPK := Lib.hid hpk
      clear hpk
      have HE := Lib.hid (⟨hrk, hrv, hk1⟩ : _ ∧ _ ∧ _)
      have HI := Lib.hid (⟨hlt, wi, hl⟩ : _ ∧ _ ∧ _)
      clear hck hstk hrk hrv hil hlt wi hl
      rw [eAk]
      clear eAk
      go_upto_region 5 with (fail)
      have hPb := (Below.refl wr.heap.size wr).alloc (Nat.le_refl _) (.cells #[.int .i64 pk, .int .i64 pf, .slice ka1 kn1 kc1, .slice va1 1 vc1] 53)
      have hP := heap_alloc_new wr (.cells #[.int .i64 pk, .int .i64 pf, .slice ka1 kn1 kc1, .slice va1 1 vc1] 53)
      generalize wr.alloc (.cells #[.int .i64 pk, .int .i64 pf, .slice ka1 kn1 kc1, .slice va1 1 vc1] 53) = w1 at hPb hP ⊢
      have p0 : w1.cell? ⟨wr.heap.size, 0, none⟩ = some (.int .i64 pk) := blk_cell hP 0
      have p1 : w1.cell? ⟨wr.heap.size, 1, none⟩ = some (.int .i64 pf) := blk_cell hP 1
      have p2 : w1.cell? ⟨wr.heap.size, 2, none⟩ = some (.slice ka1 kn1 kc1) := blk_cell hP 2
      have p3 : w1.cell? ⟨wr.heap.size, 3, none⟩ = some (.slice va1 1 vc1) := blk_cell hP 3
      have HP := Lib.hid (⟨hP, hPb⟩ : _ ∧ _)
      clear hPb hP x0 x1 k0 k1 k2 k3
      go_wp2_with (fail)
      refine (nodes n HR.out.2.1 ka1 kn1 kc1 N W _ HE.out.1 (by have := HE.out.2.2; omega) (bl0 HR.out.2.2.1 hN (hb2 HB.out HP.out.2)) hN).mono ?_
      rintro e w2 ⟨v1, ks1, rfl, ho1, hl1, hb1⟩
      have HP2 := Lib.hid (⟨ho1, hl1, (hb1.block _ (blk_lt HP.out.1)).trans HP.out.1, bl2 HP.out.2 hb1⟩ : _ ∧ _ ∧ _ ∧ _)
      clear ho1 hl1 hb1 p0 p1 p2 p3
      have p0 : w2.cell? ⟨wr.heap.size, 0, none⟩ = some (.int .i64 pk) := blk_cell HP2.out.2.2.1 0
      have p1 : w2.cell? ⟨wr.heap.size, 1, none⟩ = some (.int .i64 pf) := blk_cell HP2.out.2.2.1 1
      have p2 : w2.cell? ⟨wr.heap.size, 2, none⟩ = some (.slice ka1 kn1 kc1) := blk_cell HP2.out.2.2.1 2
      have p3 : w2.cell? ⟨wr.heap.size, 3, none⟩ = some (.slice va1 1 vc1) := blk_cell HP2.out.2.2.1 3
      go_wp2_with (fail)
      refine (nodes n HR.out.2.1 va1 1 vc1 N W _ HE.out.2.1 (by omega) (bl0 HR.out.2.2.1 hN (hb2 HB.out HP2.out.2.2.2)) hN).mono ?_
      rintro e w3 ⟨v2, ks2, rfl, ho2, hl2, hb3⟩
      have HP3 := Lib.hid (⟨own_below HP2.out.1 hb3, HP2.out.2.1, (hb3.block _ (blk_lt HP2.out.2.2.1)).trans HP2.out.2.2.1, bl2 HP2.out.2.2.2 hb3, ho2, hl2⟩ : _ ∧ _ ∧ _ ∧ _ ∧ _ ∧ _)
      clear ho2 hl2 hb3 p0 p1 p2 p3
      have p0 : w3.cell? ⟨wr.heap.size, 0, none⟩ = some (.int .i64 pk) := blk_cell HP3.out.2.2.1 0
      have p1 : w3.cell? ⟨wr.heap.size, 1, none⟩ = some (.int .i64 pf) := blk_cell HP3.out.2.2.1 1
      have p2 : w3.cell? ⟨wr.heap.size, 2, none⟩ = some (.slice ka1 kn1 kc1) := blk_cell HP3.out.2.2.1 2
      have p3 : w3.cell? ⟨wr.heap.size, 3, none⟩ = some (.slice va1 1 vc1) := blk_cell HP3.out.2.2.1 3
      obtain ⟨A1, c1, rfl, _, _, hout1⟩ := own_outs HP3.out.1 HP3.out.2.1
      obtain ⟨A2, c2, rfl, _, _, hout2⟩ := own_outs HP3.out.2.2.2.2.1 HP3.out.2.2.2.2.2
      obtain ⟨q, hq⟩ : ∃ q, ks2 = [q] := by
        have := HP3.out.2.2.2.2.2
        match ks2, this with
        | [q], _ => exact ⟨q, rfl⟩
      obtain ⟨g2, rfl, m0, m1⟩ := hout2 0 q (by rw [hq]; rfl)
      rw [Nat.mul_zero] at m0 m1
      replace m0 := fun o => (((Below.refl w3.heap.size w3).alloc (Nat.le_refl _) o).cell (World.block_lt_of_cell? _ _ m0)).trans m0
      replace m1 := fun o => (((Below.refl w3.heap.size w3).alloc (Nat.le_refl _) o).cell (World.block_lt_of_cell? _ _ m1)).trans m1
      clear hq hout2
      obtain rfl | rfl : kn1 = 0 ∨ kn1 = 1 := by have := HE.out.2.2; omega
      · skip
        have HG := Lib.hid (show True from trivial)
        go_upto_region 14 with (fail)
        have hX := heap_alloc_new w3 (.cells #[.pointer none, .nilIface, .int .i32 0, .iface q.1 (.pointer (some ⟨q.2, 0, none⟩)), .int .i32 0, .nilIface, .int .i32 0, .slice none 0 0, .int .i32 0, .int .i32 0, .int .u8 (pk % 256), .int .u8 (pf % 256)] 238)
        have hXb := (Below.refl w3.heap.size w3).alloc (Nat.le_refl _) (.cells #[.pointer none, .nilIface, .int .i32 0, .iface q.1 (.pointer (some ⟨q.2, 0, none⟩)), .int .i32 0, .nilIface, .int .i32 0, .slice none 0 0, .int .i32 0, .int .i32 0, .int .u8 (pk % 256), .int .u8 (pf % 256)] 238)
        generalize w3.alloc (.cells #[.pointer none, .nilIface, .int .i32 0, .iface q.1 (.pointer (some ⟨q.2, 0, none⟩)), .int .i32 0, .nilIface, .int .i32 0, .slice none 0 0, .int .i32 0, .int .i32 0, .int .u8 (pk % 256), .int .u8 (pf % 256)] 238) = w4 at hX hXb ⊢
        have c0 : w4.cell? ⟨w3.heap.size, 0, none⟩ = some (.pointer none) := blk_cell hX 0
        have c1 : w4.cell? ⟨w3.heap.size, 1, none⟩ = some (.nilIface) := blk_cell hX 1
        have c2 : w4.cell? ⟨w3.heap.size, 2, none⟩ = some (.int .i32 0) := blk_cell hX 2
        have c3 : w4.cell? ⟨w3.heap.size, 3, none⟩ = some (.iface q.1 (.pointer (some ⟨q.2, 0, none⟩))) := blk_cell hX 3
        have c4 : w4.cell? ⟨w3.heap.size, 4, none⟩ = some (.int .i32 0) := blk_cell hX 4
        have c5 : w4.cell? ⟨w3.heap.size, 5, none⟩ = some (.nilIface) := blk_cell hX 5
        have c6 : w4.cell? ⟨w3.heap.size, 6, none⟩ = some (.int .i32 0) := blk_cell hX 6
        have c7 : w4.cell? ⟨w3.heap.size, 7, none⟩ = some (.slice none 0 0) := blk_cell hX 7
        have c8 : w4.cell? ⟨w3.heap.size, 8, none⟩ = some (.int .i32 0) := blk_cell hX 8
        have c9 : w4.cell? ⟨w3.heap.size, 9, none⟩ = some (.int .i32 0) := blk_cell hX 9
        have c10 : w4.cell? ⟨w3.heap.size, 10, none⟩ = some (.int .u8 (pk % 256)) := blk_cell hX 10
        have c11 : w4.cell? ⟨w3.heap.size, 11, none⟩ = some (.int .u8 (pf % 256)) := blk_cell hX 11
        have HO4 := Lib.hid (own_below HO.out (bl2 HP3.out.2.2.2.1 hXb))
        have HW4 := Lib.hid (hb2 HB.out (bl2 HP3.out.2.2.2.1 hXb))
        clear hX hXb p0 p1 p2 p3 m0 m1
        have hb3 : i + 1 ≤ 200 := by have := HI.out.1; have := HI.out.2.2; omega
        have HI3 := Lib.hid hb3
        clear hb3
        go_wp2_with (at_builtin; refine wpList_append_own _ rfl (.tmp 67) (.tmp 69) 96 rfl W1.heap.size 238 i0 (.agg #[.pointer none, .nilIface, .int .i32 0, .nilIface, .int .i32 0, .nilIface, .int .i32 0, .slice none 0 0, .int .i32 0, .int .i32 0, .int .u8 0, .int .u8 0]) 12 120 Tryz.underlying96 hi hz0 hz1 hz2 rfl (by decide) _ i xs rfl (HO4.out.alloc _) ⟨w4.heap.size, 0, none⟩ 1 1 [.pointer none, .nilIface, .int .i32 0, .iface q.1 (.pointer (some ⟨q.2, 0, none⟩)), .int .i32 0, .nilIface, .int .i32 0, .slice none 0 0, .int .i32 0, .int .i32 0, .int .u8 (pk % 256), .int .u8 (pf % 256)] rfl rfl (fun j u h => news_alloc _ _ _ j u h) (by intro u hu; simp only [List.mem_cons, List.not_mem_nil, or_false] at hu; rcases hu with rfl | rfl | rfl | rfl | rfl | rfl | rfl | rfl | rfl | rfl | rfl | rfl <;> rfl) (by have := HI3.out; unfold maxLen; omega) (by have := HI3.out; omega) (by have := HW4.out.size; simp; omega) ?_)
        intro v' w5 hown hgr _
        have HO5 := Lib.hid hown
        have HW5 := Lib.hid ((HW4.out.alloc HW4.out.size _).grown hgr (by have := HW4.out.size; simp; omega) (own_base HO4.out))
        clear hown hgr
        go_upto_region 15 with (fail)
        clear c0 c1 c2 c3 c4 c5 c6 c7 c8 c9 c10 c11
        have wi := HI.out.2.1
        go_wp2_with (fail)
        clear wi
        refine ⟨⟨i + 1, _, (by first | rfl | rw [HI.out.2.1]), HI.out.1, HO5, HW5⟩, ?_⟩
        have := HI.out.1
        first | rw [HI.out.2.1] | skip
        simp only [intOf]
        clear HI HI3
        omega
      · skip
        have HG := Lib.hid (show True from trivial)
        obtain ⟨p, hp⟩ : ∃ p, ks1 = [p] := by
          have := HP3.out.2.1
          match ks1, this with
          | [p], _ => exact ⟨p, rfl⟩
        obtain ⟨g1, rfl, n0, n1⟩ := hout1 0 p (by rw [hp]; rfl)
        rw [Nat.mul_zero] at n0 n1
        replace n0 := fun o => (((Below.refl w3.heap.size w3).alloc (Nat.le_refl _) o).cell (World.block_lt_of_cell? _ _ n0)).trans n0
        replace n1 := fun o => (((Below.refl w3.heap.size w3).alloc (Nat.le_refl _) o).cell (World.block_lt_of_cell? _ _ n1)).trans n1
        clear hp hout1
        go_upto_region 14 with (fail)
        have hX := heap_alloc_new w3 (.cells #[.pointer none, .iface p.1 (.pointer (some ⟨p.2, 0, none⟩)), .int .i32 0, .iface q.1 (.pointer (some ⟨q.2, 0, none⟩)), .int .i32 0, .nilIface, .int .i32 0, .slice none 0 0, .int .i32 0, .int .i32 0, .int .u8 (pk % 256), .int .u8 (pf % 256)] 238)
        have hXb := (Below.refl w3.heap.size w3).alloc (Nat.le_refl _) (.cells #[.pointer none, .iface p.1 (.pointer (some ⟨p.2, 0, none⟩)), .int .i32 0, .iface q.1 (.pointer (some ⟨q.2, 0, none⟩)), .int .i32 0, .nilIface, .int .i32 0, .slice none 0 0, .int .i32 0, .int .i32 0, .int .u8 (pk % 256), .int .u8 (pf % 256)] 238)
        generalize w3.alloc (.cells #[.pointer none, .iface p.1 (.pointer (some ⟨p.2, 0, none⟩)), .int .i32 0, .iface q.1 (.pointer (some ⟨q.2, 0, none⟩)), .int .i32 0, .nilIface, .int .i32 0, .slice none 0 0, .int .i32 0, .int .i32 0, .int .u8 (pk % 256), .int .u8 (pf % 256)] 238) = w4 at hX hXb ⊢
        have c0 : w4.cell? ⟨w3.heap.size, 0, none⟩ = some (.pointer none) := blk_cell hX 0
        have c1 : w4.cell? ⟨w3.heap.size, 1, none⟩ = some (.iface p.1 (.pointer (some ⟨p.2, 0, none⟩))) := blk_cell hX 1
        have c2 : w4.cell? ⟨w3.heap.size, 2, none⟩ = some (.int .i32 0) := blk_cell hX 2
        have c3 : w4.cell? ⟨w3.heap.size, 3, none⟩ = some (.iface q.1 (.pointer (some ⟨q.2, 0, none⟩))) := blk_cell hX 3
        have c4 : w4.cell? ⟨w3.heap.size, 4, none⟩ = some (.int .i32 0) := blk_cell hX 4
        have c5 : w4.cell? ⟨w3.heap.size, 5, none⟩ = some (.nilIface) := blk_cell hX 5
        have c6 : w4.cell? ⟨w3.heap.size, 6, none⟩ = some (.int .i32 0) := blk_cell hX 6
        have c7 : w4.cell? ⟨w3.heap.size, 7, none⟩ = some (.slice none 0 0) := blk_cell hX 7
        have c8 : w4.cell? ⟨w3.heap.size, 8, none⟩ = some (.int .i32 0) := blk_cell hX 8
        have c9 : w4.cell? ⟨w3.heap.size, 9, none⟩ = some (.int .i32 0) := blk_cell hX 9
        have c10 : w4.cell? ⟨w3.heap.size, 10, none⟩ = some (.int .u8 (pk % 256)) := blk_cell hX 10
        have c11 : w4.cell? ⟨w3.heap.size, 11, none⟩ = some (.int .u8 (pf % 256)) := blk_cell hX 11
        have HO4 := Lib.hid (own_below HO.out (bl2 HP3.out.2.2.2.1 hXb))
        have HW4 := Lib.hid (hb2 HB.out (bl2 HP3.out.2.2.2.1 hXb))
        clear hX hXb p0 p1 p2 p3 m0 m1 n0 n1
        have hb3 : i + 1 ≤ 200 := by have := HI.out.1; have := HI.out.2.2; omega
        have HI3 := Lib.hid hb3
        clear hb3
        go_wp2_with (at_builtin; refine wpList_append_own _ rfl (.tmp 67) (.tmp 69) 96 rfl W1.heap.size 238 i0 (.agg #[.pointer none, .nilIface, .int .i32 0, .nilIface, .int .i32 0, .nilIface, .int .i32 0, .slice none 0 0, .int .i32 0, .int .i32 0, .int .u8 0, .int .u8 0]) 12 120 Tryz.underlying96 hi hz0 hz1 hz2 rfl (by decide) _ i xs rfl (HO4.out.alloc _) ⟨w4.heap.size, 0, none⟩ 1 1 [.pointer none, .iface p.1 (.pointer (some ⟨p.2, 0, none⟩)), .int .i32 0, .iface q.1 (.pointer (some ⟨q.2, 0, none⟩)), .int .i32 0, .nilIface, .int .i32 0, .slice none 0 0, .int .i32 0, .int .i32 0, .int .u8 (pk % 256), .int .u8 (pf % 256)] rfl rfl (fun j u h => news_alloc _ _ _ j u h) (by intro u hu; simp only [List.mem_cons, List.not_mem_nil, or_false] at hu; rcases hu with rfl | rfl | rfl | rfl | rfl | rfl | rfl | rfl | rfl | rfl | rfl | rfl <;> rfl) (by have := HI3.out; unfold maxLen; omega) (by have := HI3.out; omega) (by have := HW4.out.size; simp; omega) ?_)
        intro v' w5 hown hgr _
        have HO5 := Lib.hid hown
        have HW5 := Lib.hid ((HW4.out.alloc HW4.out.size _).grown hgr (by have := HW4.out.size; simp; omega) (own_base HO4.out))
        clear hown hgr
        go_upto_region 15 with (fail)
        clear c0 c1 c2 c3 c4 c5 c6 c7 c8 c9 c10 c11
        have wi := HI.out.2.1
        go_wp2_with (fail)
        clear wi
        refine ⟨⟨i + 1, _, (by first | rfl | rw [HI.out.2.1]), HI.out.1, HO5, HW5⟩, ?_⟩
        have := HI.out.1
        first | rw [HI.out.2.1] | skip
        simp only [intOf]
        clear HI HI3
        omega
    · obtain rfl : i = len := by omega
      have e0 : ¬ ((i : Int) < (i : Int)) := by omega
      clear hlt hil
      go_wp2_with (fail)
      go_ret2
      exact ⟨_, xs, rfl, HO.out, HB.out⟩
end Go.Proofs.YtacokmkbikdmmaaGreatDoor.trees
