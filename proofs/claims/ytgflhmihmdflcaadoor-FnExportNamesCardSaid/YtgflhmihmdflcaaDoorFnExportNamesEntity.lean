/-
  FnExportNames: the walk of spec.EntityName over 'a.' and a word of ASCII.
  Conditions: a word without a dot.
-/
import Derived.Test.YtgflhmihmdflcaaDoorFnExportNamesToken
import Derived.Test.YtgflhmihmdflcaaDoorFnExportNamesExport
namespace Go.Proofs.YtgflhmihmdflcaaDoor.fnExportNames
open Go.RowKit Go.Proofs.YtgflhmihmdflcaaDoorW.PrintWords Go.Proofs.YtgflhmihmdflcaaDoorW.PrintLast Go.Proofs.YtgflhmihmdflcaaDoorW.PrintMore Go.Proofs.YtgflhmihmdflcaaDoor.PFnExportNames
set_option linter.unusedVariables false
set_option linter.unusedSimpArgs false

def A1 : ByteArray := ⟨#[97]⟩
theorem wd_a : Wd A1 := ⟨by decide, by decide, by decide, fun i hi => by
  have : i < 1 := hi
  obtain rfl : i = 0 := by omega
  decide⟩
theorem free_a : spec_NameFree.f 60 A1 = some true := by decide +kernel
/-- a text that is 'a.' and a word -/
structure Ent (s b : ByteArray) : Prop where
  wd : Wd b
  len : b.size ≤ 2000
  size : s.size = b.size + 2
  c0 : nb s 0 = 97
  c1 : nb s 1 = 46
  c2 : ∀ i, 2 ≤ i → i < s.size → nb s i ≠ 46
  e0 : s.extract 0 1 = A1
  e2 : s.extract 2 s.size = b
/-- where the loop stands -/
def Lp (s b : ByteArray) (i fr : Nat) (outs : List ByteArray) : Prop := (i ≤ 1 ∧ fr = 0 ∧ outs = []) ∨ (2 ≤ i ∧ i ≤ s.size ∧ fr = 2 ∧ outs = [A1]) ∨ (i = s.size + 1 ∧ fr = s.size + 1 ∧ outs = [A1, b])
set_option maxHeartbeats 16000000 in
set_option maxRecDepth 100000 in
theorem entity (W : World) (s b : ByteArray) (hE : Ent s b) :
    Calls Tryd.prog 6 #[.string s] W fun e w' => (∃ r, e = .returned (.tuple #[r, .bool true])) ∧ Below W.heap.size W w' := by
  obtain ⟨i0, hi, hz0, hz1, hz2⟩ := info_parts info9
  have hsz := hE.size
  have hbl := hE.len
  have s1 : (s.size : Int) ≤ 4096 := by omega
  have s2 : 2 ≤ s.size := by omega
  have s3 : s.size ≤ 2002 := by omega
  have HE := Lib.hid hE
  clear hE hsz hbl
  go_enter Tryd.func6, Tryd.ntmps6
  go_wp2_with (fail)
  go_loopw [4, 5, 6] (fun v4 v5 v6 wr => ∃ (i fr : Nat) (outs : List ByteArray), v5 = .int .i64 fr ∧ v6 = .int .i64 i ∧ Lp s b i fr outs ∧ Hid (wr.ownsRow W.heap.size 9 1 v4 outs.length (cellsB outs)) ∧ Hid (Below W.heap.size W wr)) (fun _ _ v6 _ => s.size + 1 - (intOf v6).toNat)
  case atStart => exact ⟨0, 0, [], rfl, rfl, .inl ⟨by omega, rfl, rfl⟩, Lib.hid (World.ownsRow_nil _ _ _ _), Lib.hid (Below.refl _ _)⟩
  case round =>
    obtain ⟨i, fr, outs, rfl, rfl, hL, HO, HB⟩ := hrel
    have hszr : W.heap.size ≤ wr.heap.size := HB.out.size
    have wx : i ≤ 5000 → IntKind.i64.wrap ((i : Int) + 1) = ((i + 1 : Nat) : Int) := fun h => by rw [IntKind.wrap_i64]; omega
    rcases hL with ⟨h1, rfl, rfl⟩ | ⟨h1, h2, rfl, rfl⟩ | ⟨rfl, rfl, rfl⟩
    · by_cases hz : i = 0
      · subst hz
        have hlt : (0 : Int) < s.size := by omega
        have hle : (0 : Int) ≤ s.size := by omega
        have hz0 : 0 < s.size := by omega
        have hb0 : (s[0]'hz0).toNat = 97 := by rw [← nb_in s 0 hz0]; exact HE.out.c0
        clear wx
        go_wp2_with (fail)
        refine ⟨⟨1, 0, [], rfl, rfl, .inl ⟨by omega, rfl, rfl⟩, HO, HB⟩, ?_⟩
        simp only [intOf]
        omega
      · obtain rfl : i = 1 := by omega
        have hlt : (1 : Int) < s.size := by omega
        have hle : (1 : Int) ≤ s.size := by omega
        have hz1' : 1 < s.size := by omega
        have hb1 : (s[1]'hz1').toNat = 46 := by rw [← nb_in s 1 hz1']; exact HE.out.c1
        have he := HE.out.e0
        have hN := isName wr A1 wd_a
        have HN := Lib.hid hN
        clear hN
        go_wp2_with (go_at_call 9; refine (HN.out).mono ?_)
        rintro e w1 ⟨rfl, hb2⟩
        have hO1 := own_move HO.out (w1 := w1) (fun k hk => hb2.block k (HO.out.lt k hk).2)
        have HO1 := Lib.hid hO1
        have HB1 := Lib.hid (HB.out.trans (hb2.mono hszr))
        have hsz1 := HB1.out.size
        clear hb2 HN HO HB hO1
        go_wp2_with (at_builtin; refine wpList_append_own _ rfl (.tmp 29) (.tmp 34) 22 rfl W.heap.size 9 i0 (.string ⟨#[]⟩) 1 16 Tryd.underlying22 hi hz0 hz1 hz2 rfl (by decide) _ 0 (cellsB []) rfl (HO1.out.alloc _) ⟨w1.heap.size, 0, none⟩ 1 1 [.string A1] rfl rfl (cell_one_new _ _ _) (by simp [Value.oneCell']) (by unfold maxLen; omega) (by omega) (by simp; omega) ?_; intro v' w2 hown2 hgrow2 _)
        have HB2 := Lib.hid ((HB1.out.alloc hsz1 (.cells #[.string A1] 9)).grown hgrow2 (by simp; omega) (own_base HO1.out))
        have HO2 := Lib.hid (show w2.ownsRow W.heap.size 9 1 v' [A1].length (cellsB [A1]) from hown2)
        clear hown2 hgrow2
        go_wp2_with (fail)
        refine ⟨⟨2, 2, [A1], rfl, rfl, .inr (.inl ⟨Nat.le_refl _, s2, rfl, rfl⟩), HO2, HB2⟩, ?_⟩
        simp only [intOf]
        omega
    · by_cases hl : i < s.size
      · have hlt : (i : Int) < s.size := by omega
        have hle : (i : Int) ≤ s.size := by omega
        have hge : (0 : Int) ≤ i := by omega
        obtain ⟨c, hc, hne⟩ : ∃ c : Nat, (s[i]'hl).toNat = c ∧ ¬ (c : Int) = 46 := ⟨_, rfl, by rw [← nb_in s i hl]; have := HE.out.c2 i h1 hl; omega⟩
        have wi := wx (by omega)
        clear wx
        go_wp2_with (fail)
        refine ⟨⟨i + 1, 2, [A1], rfl, by simp [wi], .inr (.inl ⟨by omega, by omega, rfl, rfl⟩), HO, HB⟩, ?_⟩
        simp only [intOf]
        omega
      · obtain rfl : i = s.size := by omega
        have hle : ¬ (s.size : Int) < s.size := by omega
        have h2i : (2 : Int) ≤ s.size := by omega
        have he := HE.out.e2
        have hN := isName wr b HE.out.wd
        have HN := Lib.hid hN
        have wi := wx (by omega)
        clear hN wx
        go_wp2_with (go_at_call 9; refine (HN.out).mono ?_)
        rintro e w1 rfl hb2
        have hO1 := own_move HO.out (w1 := w1) (fun k hk => hb2.block k (HO.out.lt k hk).2)
        have HO1 := Lib.hid hO1
        have HB1 := Lib.hid (HB.out.trans (hb2.mono hszr))
        have hsz1 := HB1.out.size
        clear hb2 HN HO HB hO1
        go_wp2_with (at_builtin; refine wpList_append_own _ rfl (.tmp 29) (.tmp 34) 22 rfl W.heap.size 9 i0 (.string ⟨#[]⟩) 1 16 Tryd.underlying22 hi hz0 hz1 hz2 rfl (by decide) _ 1 (cellsB [A1]) rfl (HO1.out.alloc _) ⟨w1.heap.size, 0, none⟩ 1 1 [.string b] rfl rfl (cell_one_new _ _ _) (by simp [Value.oneCell']) (by unfold maxLen; omega) (by omega) (by simp; omega) ?_; intro v' w2 hown2 hgrow2 _)
        have HB2 := Lib.hid ((HB1.out.alloc hsz1 (.cells #[.string b] 9)).grown hgrow2 (by simp; omega) (own_base HO1.out))
        have HO2 := Lib.hid (show w2.ownsRow W.heap.size 9 1 v' [A1, b].length (cellsB [A1, b]) from hown2)
        clear hown2 hgrow2
        go_wp2_with (fail)
        refine ⟨⟨s.size + 1, s.size + 1, [A1, b], by simp [wi], by simp [wi], .inr (.inr ⟨rfl, rfl, rfl⟩), HO2, HB2⟩, ?_⟩
        simp only [intOf]
        omega
    · have hno : ¬ ((s.size + 1 : Nat) : Int) ≤ s.size := by omega
      obtain ⟨g, cap, rfl, hg1, hg2⟩ := World.ownsRow.form HO.out (by show 0 < 2; decide)
      have c0 : wr.cell? ⟨g, 0, none⟩ = some (.string A1) := HO.out.cellAt 0 (by show 0 < 2 * 1; decide)
      have hgl : g < wr.heap.size := World.block_lt_of_cell? _ _ c0
      have n1 : (A1.toList == [117, 110, 100, 101, 102, 105, 110, 101, 100]) = false := by decide +kernel
      have n2 : (A1.toList == [78, 97, 78]) = false := by decide +kernel
      have n3 : (A1.toList == [73, 110, 102, 105, 110, 105, 116, 121]) = false := by decide +kernel
      clear wx
      go_wp2_with (fail)
      go_region_with (go_at_call 10; refine (spec_NameFree.calls 60 A1 true _ free_a).mono ?_; rintro e w2 ⟨rfl, hb2⟩; have c02 := (hb2.cell (by exact hgl)).trans c0)
      all_goals
        have HB2 := Lib.hid ((HB.out.drew).trans (hb2.mono hszr))
        clear hb2 c02 c0
        go_wp2_with (fail)
        go_ret2
        exact ⟨⟨_, rfl⟩, HB2.out⟩
end Go.Proofs.YtgflhmihmdflcaaDoor.fnExportNames
