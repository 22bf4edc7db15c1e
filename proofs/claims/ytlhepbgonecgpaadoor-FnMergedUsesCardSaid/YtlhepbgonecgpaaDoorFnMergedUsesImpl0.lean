/-
  FnMergedUses: the walk of impl.Merged where there is no symbol.
  Conditions: none.
-/
import Derived.Test.YtlhepbgonecgpaaDoorFnMergedUsesMerged
import Derived.Laws.EntriesVeiled
namespace Go.Proofs.YtlhepbgonecgpaaDoor.fnMergedUses
open Go.RowKit Go.Proofs.YtlhepbgonecgpaaDoorW.PrintWords Go.Proofs.YtlhepbgonecgpaaDoorW.PrintLast Go.Proofs.YtlhepbgonecgpaaDoorW.PrintMore Go.Proofs.YtlhepbgonecgpaaDoor.PFnMergedUses
set_option linter.unusedVariables false
set_option linter.unusedSimpArgs false

set_option maxHeartbeats 16000000 in
set_option maxRecDepth 100000 in
theorem implMerged0 (W : World) (N : Nat) (A : Option Addr) (c : Nat) (v u : Value) (hC : Kd.C k30 W A 0 [])
    (g0 : W.cell? ⟨0, 0, none⟩ = some (.int .u32 4294967295)) (g1 : W.cell? ⟨0, 1, none⟩ = some (.int .u32 4294967295))
    (hp : PR W N v []) (hu : RA W N u 0 []) (hN : N ≤ W.heap.size) :
    Calls Tryd.prog 7 #[.slice A 0 c, v, u] W (ImpPost W [] [] []) := by
  have h0 := World.block_lt_of_cell? W _ g0
  have hb2 : Below W.heap.size W ((W.alloc (.cells #[.slice A 0 c] 22)).alloc (.cells #[.func (.func 12) #[] #[.pointer (some ⟨W.heap.size, 0, none⟩)]] 40)) := ((Below.refl _ _).alloc (Nat.le_refl _) _).alloc (by simp) _
  have he : Env ((W.alloc (.cells #[.slice A 0 c] 22)).alloc (.cells #[.func (.func 12) #[] #[.pointer (some ⟨W.heap.size, 0, none⟩)]] 40)) W.heap.size (W.heap.size + 1) 0 := by
    refine ⟨⟨A, c, ?_⟩, ?_⟩
    · exact blk_cell (alloc_old (heap_alloc_new W _)) 0
    · exact blk_cell (alloc_at (k := W.heap.size + 1) (by simp)) 0
  have HE := Lib.hid he
  have HB := Lib.hid hb2
  have HC := Lib.hid hC
  have HG0 := Lib.hid g0
  have HG1 := Lib.hid g1
  have HP := Lib.hid hp
  have HA := Lib.hid hu
  have KP := Lib.hid (hasP _ W.heap.size (W.heap.size + 1) 0 N v [] he (hp.keep (fun g hg => hb2.block g (by omega))) (by have := hb2.size; omega) (by intro p hp; cases hp) (by simp))
  clear he hb2 hC g0 g1 hp hu
  go_enter Tryd.func7, Tryd.ntmps7
  go_wp2_with (go_at_call 13; refine (KP.out).mono ?_)
  rintro e w1 rfl hb1
  have hb1 : Below ((W.alloc (.cells #[.slice A 0 c] 22)).alloc (.cells #[.func (.func 12) #[] #[.pointer (some ⟨W.heap.size, 0, none⟩)]] 40)).heap.size ((W.alloc (.cells #[.slice A 0 c] 22)).alloc (.cells #[.func (.func 12) #[] #[.pointer (some ⟨W.heap.size, 0, none⟩)]] 40)) w1 := by simpa using hb1
  have HE1 := Lib.hid (HE.out.keep hb1)
  have HB1 := Lib.hid (HB.out.trans (hb1.mono HB.out.size))
  have HF1 := Lib.hid ((hb1.cell (by exact World.block_lt_of_cell? _ _ (blk_cell (alloc_old (heap_alloc_new W (.cells #[.slice A 0 c] 22))) 0))).trans (blk_cell (alloc_old (o := .cells #[.func (.func 12) #[] #[.pointer (some ⟨W.heap.size, 0, none⟩)]] 40) (heap_alloc_new W (.cells #[.slice A 0 c] 22))) 0))
  clear hb1 HE KP HB
  have o1 := HE1.out.o
  have hsz1 : W.heap.size ≤ w1.heap.size := HB1.out.size
  have KA := Lib.hid (hasN _ W.heap.size (W.heap.size + 1) 0 N u [] HE1.out (HA.out.keep (fun g hg => HB1.out.block g (by omega))) (by omega) (by intro x hx; cases hx) (by simp))
  go_wp2_with (go_at_call 15; refine (KA.out).mono ?_)
  rintro e w2 ⟨rfl, hb2⟩
  have f2 : w2.cell? ⟨W.heap.size, 0, none⟩ = some (.slice A 0 c) := by
    have f1 : w1.cell? ⟨W.heap.size, 0, none⟩ = some (.slice A 0 c) := HF1.out
    exact (hb2.cell (by exact World.block_lt_of_cell? _ _ f1)).trans f1
  have HB2 := Lib.hid (HB1.out.trans (hb2.mono hsz1))
  clear hb2 HE1 KA HB1 o1 HF1
  have hlt2 : W.heap.size < w2.heap.size := World.block_lt_of_cell? _ _ f2
  have h0' : 0 < W.heap.size := h0
  have KT := Lib.hid (table w2 A c [] (Kd.C_below HC.out HB2.out) (by simp) (by simp) ((HB2.out.cell (by exact h0)).trans HG0.out) ((HB2.out.cell (by exact h0)).trans HG1.out))
  go_wp2_with (go_at_call 16; refine (KT.out).mono ?_)
  rintro e w3 ⟨SB, rfl, hle, hte, hb3⟩
  obtain ⟨qa, qc, hsb3⟩ : ∃ qa qc, w3.heap[SB]? = some (.cells #[.slice qa 0 qc] 53 (0, 0)) := by
    rcases hte with ⟨_, h⟩ | ⟨B, cap, hB, h⟩
    · exact ⟨_, _, h⟩
    · exact ⟨_, _, h.sb⟩
  have HB3 := Lib.hid (HB2.out.trans (hb3.mono (Nat.le_of_lt hlt2)))
  have hslt : SB < w3.heap.size := (Array.getElem?_eq_some_iff.1 hsb3).1
  have hkb : Below w3.heap.size w3 (w3.alloc (.cells #[.slice (some ⟨SB, 0, none⟩) 1 1] 46)) := (Below.refl _ _).alloc (Nat.le_refl _) _
  have HB4 := Lib.hid (HB3.out.trans (hkb.mono (by have := hb3.size; omega)))
  have HM4 := Lib.hid (heap_alloc_new w3 (.cells #[.slice (some ⟨SB, 0, none⟩) 1 1] 46))
  have HS4 := Lib.hid (alloc_old (o := .cells #[.slice (some ⟨SB, 0, none⟩) 1 1] 46) hsb3)
  obtain ⟨PA, pcap, rfl, hpc, hpat⟩ := HP.out
  obtain ⟨UA, ucap, rfl, huc, huat⟩ := HA.out
  clear hb3 hte KT f2 HB3 hkb hpat huat
  go_wp2_with (fail)
  generalize w3.alloc (.cells #[.slice (some ⟨SB, 0, none⟩) 1 1] 46) = w4 at HB4 HM4 HS4 ⊢
  generalize w3.heap.size = MB at *
  go_loopw [29] (fun v29 wr => v29 = .int .i64 0 ∧ wr = w4) (fun _ _ => 0)
  case atStart => exact ⟨rfl, rfl⟩
  case round =>
    obtain ⟨rfl, rfl⟩ := hrel
    go_wp2_with (fail)
    go_loopw [6, 44] (fun v6 v44 wr2 => v6 = .slice none 0 0 ∧ v44 = .int .i64 0 ∧ wr2 = wr) (fun _ _ _ => 0)
    case atStart => exact ⟨rfl, rfl, rfl⟩
    case round =>
      obtain ⟨rfl, rfl, rfl⟩ := hrel
      have m0 : wr.cell? ⟨MB, 0, none⟩ = some (.slice (some ⟨SB, 0, none⟩) 1 1) := blk_cell HM4.out 0
      have sb0 : wr.cell? ⟨SB, 0, none⟩ = some (.slice qa 0 qc) := blk_cell HS4.out 0
      go_wp2_with (fail)
      go_loopw [7, 63] (fun v7 v63 wr2 => v7 = .slice none 0 0 ∧ v63 = .int .i64 0 ∧ wr2 = wr) (fun _ _ _ => 0)
      case atStart => exact ⟨rfl, rfl, rfl⟩
      case round =>
        obtain ⟨rfl, rfl, rfl⟩ := hrel
        go_wp2_with (fail)
        go_ret2
        refine ⟨.slice none 0 0, .slice none 0 0, [], rfl, ?_, ?_, ?_, HB4.out⟩
        · exact ⟨none, 0, rfl, Nat.le_refl _, fun i hi => absurd hi (by simp)⟩
        · exact ⟨none, 0, rfl, Nat.le_refl _, fun i hi => absurd hi (by simp)⟩
        · exact agree_start [] (by intro x hx; cases hx)
end Go.Proofs.YtlhepbgonecgpaaDoor.fnMergedUses
