/-
  FnFinalize: Joiner.AddBytes keeps a row of pieces.
  Conditions: fewer than 2^32 bytes.
-/
import Derived.Test.YtdhaifcjhmmdlaaFnFinalizeEncode
import Derived.Deep.RegionHeld3
import Derived.Deep.AppendLies
namespace Go.Proofs.Ytdhaifcjhmmdlaa.fnFinalize
open Go.RowKit Go.Proofs.YtdhaifcjhmmdlaaW.PrintWords Go.Proofs.YtdhaifcjhmmdlaaW.PrintLast Go.Proofs.YtdhaifcjhmmdlaaW.PrintMore
set_option linter.unusedVariables false
set_option linter.unusedSimpArgs false

abbrev Chs := List (Value × List UInt8)
def cellsJ : Nat → Chs → List Value
  | _, [] => []
  | o, p :: r => p.1 :: .int .u32 (o : Int) :: cellsJ (o + p.2.length) r
def tot (chs : Chs) : Nat := (chs.map (fun p => p.2.length)).sum
theorem tot_app (a b : Chs) : tot (a ++ b) = tot a + tot b := by simp [tot]
theorem cellsJ_app : ∀ (a b : Chs) (o : Nat), cellsJ o (a ++ b) = cellsJ o a ++ cellsJ (o + tot a) b := by
  intro a
  induction a with
  | nil => intro b o; simp [cellsJ, tot]
  | cons x r ih =>
    intro b o
    simp only [List.cons_append, cellsJ, ih, tot, List.map_cons, List.sum_cons]
    rw [Nat.add_assoc]
/-- a piece that lies apart from the blocks X and from the row -/
def Ck (W : World) (X : List Nat) (rv v : Value) (l : List UInt8) : Prop :=
  ∃ a cap, v = .slice a l.length cap ∧ l.length ≤ cap ∧ ∀ i (hi : i < l.length), ∃ g o, a = some ⟨g, o, none⟩ ∧ g < W.heap.size ∧ g ∉ X ∧ rv.ownBlock ≠ some g ∧ W.cell? ⟨g, o + i, none⟩ = some (bval l[i])
structure Jo (W : World) (B j : Nat) (X : List Nat) (rv : Value) (chs : Chs) : Prop where
  blk : ∃ lb : Int, W.heap[j]? = some (.cells #[.slice none 0 0, rv, .int .u32 (tot chs : Int), .int .u8 lb] 60 (0, 0))
  own : W.ownsRow B 71 2 rv chs.length (cellsJ 0 chs)
  ck : ∀ p ∈ chs, Ck W X rv p.1 p.2
  jX : j ∈ X
  XB : ∀ x ∈ X, x < B
  size : B ≤ W.heap.size
/-- all but one block and one row stand -/
structure Gr (j : Nat) (row : Option Nat) (W w' : World) : Prop where
  os : w'.os = W.os
  tape : w'.tape = W.tape
  output : w'.output = W.output
  size : W.heap.size ≤ w'.heap.size
  block : ∀ g, g < W.heap.size → g ≠ j → some g ≠ row → w'.heap[g]? = W.heap[g]?
theorem Ck.keep {W W' : World} {X : List Nat} {rv rv' v : Value} {l : List UInt8} (h : Ck W X rv v l) (hs : W.heap.size ≤ W'.heap.size) (hr : rv'.ownBlock = rv.ownBlock ∨ ∀ g, rv'.ownBlock = some g → W.heap.size ≤ g)
    (hk : ∀ g, g < W.heap.size → g ∉ X → rv.ownBlock ≠ some g → W'.heap[g]? = W.heap[g]?) : Ck W' X rv' v l := by
  obtain ⟨a, cap, h1, h2, h3⟩ := h
  refine ⟨a, cap, h1, h2, fun i hi => ?_⟩
  obtain ⟨g, o, e, h3, h4, h5, h6⟩ := h3 i hi
  refine ⟨g, o, e, Nat.lt_of_lt_of_le h3 hs, h4, ?_, (cell_of' (hk g h3 h4 h5)).trans h6⟩
  intro e
  rcases hr with hr | hr
  · exact h5 (hr ▸ e)
  · have := hr g e; omega
theorem info71 : (Try.prog.info? 71).map (fun i => (i.zero, i.size, i.bytes)) = some (some (.agg #[.slice none 0 0, .int .u32 0]), 2, 32) := by kernel_rfl
set_option maxHeartbeats 8000000 in
set_option maxRecDepth 100000 in
theorem addBytes (W : World) (B j : Nat) (X : List Nat) (rv : Value) (chs : Chs) (v : Value) (l : List UInt8) (hJ : Jo W B j X rv chs) (hC : Ck W X rv v l) (ht : tot chs + l.length < 4294967296) (hn : chs.length ≤ 1000000) :
    Calls Try.prog 20 #[.pointer (some ⟨j, 0, none⟩), v] W fun e w' => e = .returned (.tuple #[]) ∧ ∃ rv', Jo w' B j X rv' (chs ++ [(v, l)]) ∧ Gr j rv.ownBlock W w' := by
  obtain ⟨i0, hi, hz0, hz1, hz2⟩ := info_parts info71
  obtain ⟨lb, hb⟩ := hJ.blk
  have hCC := Lib.hid hC
  obtain ⟨aa, cap, rfl, hcap, hcell⟩ := hC
  have HJ := Lib.hid hJ
  have hjB := hJ.XB j hJ.jX
  have HB := Lib.hid hb
  have HCL := Lib.hid hcell
  clear hJ hb hcell
  go_enter Try.func20, Try.ntmps20
  go_upto_if 6 with (fail)
  go_cut [] (fun wc => Hid (∃ lb' : Int, wc.heap[j]? = some (.cells #[.slice none 0 0, rv, .int .u32 (tot chs : Int), .int .u8 lb'] 60 (0, 0))) ∧ Hid (wc.ownsRow B 71 2 rv chs.length (cellsJ 0 chs)) ∧ Hid (∀ k, k ≠ j → wc.heap[k]? = W.heap[k]?) ∧ Hid (Gr j rv.ownBlock W wc) ∧ wc.heap.size = W.heap.size)
  case first =>
    by_cases hl0 : l.length = 0
    · have q0 : decide (0 < (l.length : Int)) = false := decide_eq_false (by omega)
      go_wp2_with (fail)
      go_meet
      case rel => exact ⟨Lib.hid ⟨lb, HB.out⟩, Lib.hid HJ.out.own, Lib.hid (fun k _ => rfl), Lib.hid ⟨rfl, rfl, rfl, Nat.le_refl _, fun _ _ _ _ => rfl⟩, rfl⟩
    · obtain ⟨L1, hL1⟩ : ∃ L1, L1 + 1 = l.length := ⟨l.length - 1, by omega⟩
      obtain ⟨g, o, rfl, hg, hX, hrv, hlast⟩ := HCL.out L1 (by omega)
      have hgj : g ≠ j := fun e => hX (e ▸ HJ.out.jX)
      have p0 : (0 : Int) < (l.length : Int) := by omega
      have p0b : decide (0 < (l.length : Int)) = true := decide_eq_true p0
      have e2 : wrap64 ((l.length : Int) - 1) = (L1 : Int) := by
        unfold wrap64
        omega
      have q0 : (0 : Int) ≤ (L1 : Int) := by omega
      have q1 : (L1 : Int) < (l.length : Int) := by omega
      have hb := HB.out
      have c1 : W.cell? ⟨j, 1, none⟩ = some rv := blk_cell hb 1
      have c2 : W.cell? ⟨j, 2, none⟩ = some (.int .u32 (tot chs : Int)) := blk_cell hb 2
      have f3 : W.frozen? ⟨j, 3, none⟩ = false := blk_frozen hb 3
      have c3 : W.cell? ⟨j, 3, none⟩ = some (.int .u8 lb) := blk_cell hb 3
      generalize hbv : l[L1] = bb at hlast
      have hlast : W.cell? ⟨g, o + L1, none⟩ = some (.int .u8 (bb.toNat : Int)) := hlast
      have hlast2 : W.cell? ⟨g, o + (l.length - 1), none⟩ = some (.int .u8 (bb.toNat : Int)) := by
        rw [← hL1, Nat.add_sub_cancel]
        exact hlast
      have HL1 := Lib.hid hL1
      clear hb hX hrv hL1 hbv
      have p0c : 0 < l.length := by have := HL1.out; omega
      go_wp2_with (fail)
      have hB1 := blk_put HB.out 3 (.int .u8 (bb.toNat : Int)) (cs' := #[.slice none 0 0, rv, .int .u32 (tot chs : Int), .int .u8 (bb.toNat : Int)]) rfl
      have hO1 := ownsRow_setCell_below HJ.out.own (a := ⟨j, 3, none⟩) hjB (.int .u8 (bb.toNat : Int))
      have hK1 : ∀ k, k ≠ j → (W.setCell ⟨j, 3, none⟩ (.int .u8 (bb.toNat : Int))).heap[k]? = W.heap[k]? := fun k hk => Below.heap_setCell W ⟨j, 3, none⟩ _ k hk
      have hG1 : Gr j rv.ownBlock W (W.setCell ⟨j, 3, none⟩ (.int .u8 (bb.toNat : Int))) := ⟨rfl, rfl, rfl, by simp [World.setCell], fun k _ hk _ => hK1 k hk⟩
      have hs1 : (W.setCell ⟨j, 3, none⟩ (.int .u8 (bb.toNat : Int))).heap.size = W.heap.size := by simp [World.setCell]
      have HB1 := Lib.hid (⟨_, hB1⟩ : ∃ lb' : Int, (W.setCell ⟨j, 3, none⟩ (.int .u8 (bb.toNat : Int))).heap[j]? = some (.cells #[.slice none 0 0, rv, .int .u32 (tot chs : Int), .int .u8 lb'] 60 (0, 0)))
      have HO1 := Lib.hid hO1
      have HK1 := Lib.hid hK1
      have HG1 := Lib.hid hG1
      have HS1 := Lib.hid hs1
      clear hB1 hO1 hK1 hG1 hs1
      go_meet
      case rel => exact ⟨HB1, HO1, HK1, HG1, HS1.out⟩
  case rest =>
  obtain ⟨HB0, HO1, HK1, HG1, hs1⟩ := hcut
  obtain ⟨lb1, hB1⟩ := HB0.out
  have hO1 := HO1.out
  have hK1 := HK1.out
  have hG1 := HG1.out
  clear HB0 HO1 HK1 HG1
  have c1 : wc.cell? ⟨j, 1, none⟩ = some rv := blk_cell hB1 1
  have c2 : wc.cell? ⟨j, 2, none⟩ = some (.int .u32 (tot chs : Int)) := blk_cell hB1 2
  have f1 : wc.frozen? ⟨j, 1, none⟩ = false := blk_frozen hB1 1
  have hjl : j < wc.heap.size := blk_lt hB1
  have hsB := HJ.out.size
  have hown := hO1.lt
  have nJ : some j ≠ rv.ownBlock := fun e => by have := (hown j e.symm).1; omega
  have hk63 : chs.length + 1 ≤ maxLen := by unfold maxLen; omega
  have hkb : (chs.length + 1) * 32 ≤ 140737488355328 := by omega
  have hBl : B ≤ wc.heap.size := by omega
  have HB1 := Lib.hid hB1
  have HK1 := Lib.hid hK1
  have HG1 := Lib.hid hG1
  have HS1 := Lib.hid hs1
  clear hB1 hK1 hG1 hs1
  go_wp2_with (fail)
  rw [show Op.load 57 (Operand.tmp 19) = id (Op.load 57 (Operand.tmp 19)) from rfl]
  go_region_held3 (fun w' => w'.cell? ⟨j, 2, none⟩ = some (.int .u32 (tot chs : Int)))
    (go_keep)
    ((refine step_append_lies _ (by rfl) _ _ _ (by rfl) B 71 i0 _ 2 32 Try.underlying57 hi hz0 hz1 hz2 rfl (by omega) rv chs.length (cellsJ 0 chs) (by rfl) ((hO1.alloc _).drew)
        ⟨wc.heap.size, 0, none⟩ 1 1 [.slice aa l.length cap, .int .u32 (tot chs : Int)] (by rfl) (by rfl) (World.news_of_block (cs := #[.slice aa l.length cap, .int .u32 (tot chs : Int)]) (t := 71) (fr := (0, 0)) (heap_alloc_new wc _)) (by simp [Value.oneCell'])
        (by omega) hk63 hkb (by simp; omega) (wc.heap.size + 1) (by simp) ?_; intro gg cp w4 hown1 hgrow hat hltg; have d9 : w4.frozen? ⟨j, 1, none⟩ = false := (hgrow.frozen_far ⟨j, 1, none⟩ (by simp; omega) nJ).trans ((World.frozen?_of_block (Below.heap_alloc wc _ j hjl)).trans f1); have d10 : w4.cell? ⟨j, 1, none⟩ = some rv := (hgrow.cell_far ⟨j, 1, none⟩ (by simp; omega) nJ).trans ((World.cell?_of_block (Below.heap_alloc wc _ j hjl)).trans c1); have d11 : w4.cell? ⟨j, 2, none⟩ = some (.int .u32 (tot chs : Int)) := (hgrow.cell_far ⟨j, 2, none⟩ (by simp; omega) nJ).trans ((World.cell?_of_block (Below.heap_alloc wc _ j hjl)).trans c2); have q0 : (w4.setCell ⟨j, 1, none⟩ (.slice (some ⟨gg, 0, none⟩) (chs.length + 1) cp)).cell? ⟨j, 2, none⟩ = some (.int .u32 (tot chs : Int)) := (World.cell?_setCell_other w4 ⟨j, 1, none⟩ ⟨j, 2, none⟩ _ (by simp)).trans d11))
  all_goals
    have e4 : ∀ k, k < wc.heap.size → some k ≠ rv.ownBlock → w4.heap[k]? = wc.heap[k]? := fun k hk hne => (hgrow.block k (by simp; omega) hne).trans (Below.heap_alloc wc _ k hk)
    have hO5 := ownsRow_setCell_below hown1 (a := ⟨j, 1, none⟩) hjB (.slice (some ⟨gg, 0, none⟩) (chs.length + 1) cp)
    have hB5 := blk_put ((e4 j hjl nJ).trans HB1.out) 1 (.slice (some ⟨gg, 0, none⟩) (chs.length + 1) cp) (cs' := #[.slice none 0 0, .slice (some ⟨gg, 0, none⟩) (chs.length + 1) cp, .int .u32 (tot chs : Int), .int .u8 lb1]) rfl
    have hG5 : Gr j rv.ownBlock W (w4.setCell ⟨j, 1, none⟩ (.slice (some ⟨gg, 0, none⟩) (chs.length + 1) cp)) := by
      refine ⟨hgrow.os.trans HG1.out.os, hgrow.tape.trans HG1.out.tape, hgrow.output.trans HG1.out.output, ?_, ?_⟩
      · have h1 := HG1.out.size
        have h2 := hgrow.size
        simp [World.setCell] at h2 ⊢
        omega
      · intro k hk hkj hkr
        exact (Below.heap_setCell w4 ⟨j, 1, none⟩ _ k hkj).trans ((e4 k (by have := HG1.out.size; omega) hkr).trans (HG1.out.block k hk hkj hkr))
    have hat' : rv.ownBlock = some gg ∨ W.heap.size ≤ gg := by
      rcases hat with h | h
      · exact .inl h
      · exact .inr (by have := HS1.out; omega)
    generalize w4.setCell ⟨j, 1, none⟩ (.slice (some ⟨gg, 0, none⟩) (chs.length + 1) cp) = w5 at hO5 hB5 hG5 ⊢
    clear e4 hown1 hgrow hat d9 d10 d11 q0 c1 c2 f1
    have c2 : w5.cell? ⟨j, 2, none⟩ = some (.int .u32 (tot chs : Int)) := blk_cell hB5 2
    have f2 : w5.frozen? ⟨j, 2, none⟩ = false := blk_frozen hB5 2
    have u1 : IntKind.u32.wrap (l.length : Int) = (l.length : Int) := by
      rw [IntKind.wrap_u32]; omega
    have u2 : IntKind.u32.wrap ((tot chs : Int) + (l.length : Int)) = ((tot chs + l.length : Nat) : Int) := by
      rw [IntKind.wrap_u32]; omega
    have HO5 := Lib.hid hO5
    have HB5 := Lib.hid hB5
    have HG5 := Lib.hid hG5
    have HA5 := Lib.hid hat'
    clear hO5 hB5 hG5 hat'
    go_wp2_with (fail)
    go_end0
    refine ⟨rfl, .slice (some ⟨gg, 0, none⟩) (chs.length + 1) cp, ?_, ?_⟩
    · have hsz : (w5.setCell ⟨j, 2, none⟩ (.int .u32 ((tot chs : Int) + (l.length : Int)))).heap.size = w5.heap.size := by simp [World.setCell]
      have hG := HG5.out
      have hWs := hG.size
      have hkeep : ∀ k, k < W.heap.size → k ∉ X → rv.ownBlock ≠ some k → (w5.setCell ⟨j, 2, none⟩ (.int .u32 ((tot chs : Int) + (l.length : Int)))).heap[k]? = W.heap[k]? := fun k h1 h2 h3 => by
        have hkj : k ≠ j := fun e => h2 (e ▸ HJ.out.jX)
        exact (Below.heap_setCell w5 ⟨j, 2, none⟩ _ k hkj).trans (hG.block k h1 hkj (fun e => h3 e.symm))
      have hnew : (Value.slice (some ⟨gg, 0, none⟩) (chs.length + 1) cp).ownBlock = rv.ownBlock ∨ ∀ x, (Value.slice (some ⟨gg, 0, none⟩) (chs.length + 1) cp).ownBlock = some x → W.heap.size ≤ x := by
        rcases HA5.out with h | h
        · exact .inl h.symm
        · exact .inr fun x e => by
            have e : some gg = some x := e
            obtain rfl := Option.some.inj e
            exact h
      refine ⟨⟨lb1, ?_⟩, ?_, ?_, HJ.out.jX, HJ.out.XB, by rw [hsz]; omega⟩
      · have := blk_put HB5.out 2 (.int .u32 ((tot chs : Int) + (l.length : Int))) (cs' := #[.slice none 0 0, .slice (some ⟨gg, 0, none⟩) (chs.length + 1) cp, .int .u32 ((tot chs : Int) + (l.length : Int)), .int .u8 lb1]) rfl
        rw [this, tot_app]
        simp [tot]
      · have := ownsRow_setCell_below HO5.out (a := ⟨j, 2, none⟩) hjB (.int .u32 ((tot chs : Int) + (l.length : Int)))
        rw [cellsJ_app, List.length_append, Nat.zero_add]
        exact this
      · intro p hp
        rcases List.mem_append.1 hp with hp | hp
        · exact (HJ.out.ck p hp).keep (by rw [hsz]; exact hWs) hnew hkeep
        · obtain rfl := List.mem_singleton.1 hp
          exact hCC.out.keep (by rw [hsz]; exact hWs) hnew hkeep
    · have hG := HG5.out
      refine ⟨hG.os, hG.tape, hG.output, ?_, fun k h1 h2 h3 => (Below.heap_setCell w5 ⟨j, 2, none⟩ _ k h2).trans (hG.block k h1 h2 h3)⟩
      have := hG.size
      simpa [World.setCell] using this
end Go.Proofs.Ytdhaifcjhmmdlaa.fnFinalize
