/-
  FnMergedUses: the walk of laws.merged: a symbol stands for another one.
  Conditions: none.
-/
import Derived.Test.YtlhepbgonecgpaaDoorFnMergedUsesImpl
import Derived.Test.YtlhepbgonecgpaaDoorFnMergedUsesImpl0
namespace Go.Proofs.YtlhepbgonecgpaaDoor.fnMergedUses
open Go.RowKit Go.Proofs.YtlhepbgonecgpaaDoorW.PrintWords Go.Proofs.YtlhepbgonecgpaaDoorW.PrintLast Go.Proofs.YtlhepbgonecgpaaDoorW.PrintMore Go.Proofs.YtlhepbgonecgpaaDoor.PFnMergedUses
set_option linter.unusedVariables false
set_option linter.unusedSimpArgs false

def ab : List S30 := [⟨⟨#[97]⟩, 0, 0, 0⟩, ⟨⟨#[98]⟩, 0, 0, 0⟩]
set_option maxHeartbeats 8000000 in
set_option maxRecDepth 100000 in
theorem awake (W : World) (g0 : W.cell? ⟨0, 0, none⟩ = some (.int .u32 4294967295)) (g1 : W.cell? ⟨0, 1, none⟩ = some (.int .u32 4294967295)) :
    Calls Tryd.prog 6 #[] W fun e w' => e = .returned (.bool true) ∧ Below W.heap.size W w' := by
  have hb : Below W.heap.size W (((W.alloc (.cells #[.string ⟨#[97]⟩, .int .u32 0, .int .i64 0, .int .i64 0, .string ⟨#[98]⟩, .int .u32 0, .int .i64 0, .int .i64 0] 30)).alloc (.cells #[.int .i64 0, .int .i64 1] 39)).alloc (.cells #[.int .i64 0, .int .i64 1] 3)) := (((Below.refl _ _).alloc (Nat.le_refl _) _).alloc (by simp) _).alloc (by simp; omega) _
  have h0 := World.block_lt_of_cell? W _ g0
  have h1 : 0 < W.heap.size := h0
  have g0' := (hb.cell (by exact h0)).trans g0
  have g1' := (hb.cell (by exact h0)).trans g1
  have b0 : (((W.alloc (.cells #[.string ⟨#[97]⟩, .int .u32 0, .int .i64 0, .int .i64 0, .string ⟨#[98]⟩, .int .u32 0, .int .i64 0, .int .i64 0] 30)).alloc (.cells #[.int .i64 0, .int .i64 1] 39)).alloc (.cells #[.int .i64 0, .int .i64 1] 3)).heap[W.heap.size]? = some (.cells #[.string ⟨#[97]⟩, .int .u32 0, .int .i64 0, .int .i64 0, .string ⟨#[98]⟩, .int .u32 0, .int .i64 0, .int .i64 0] 30 (0, 0)) := alloc_old (alloc_old (alloc_at rfl))
  have b1 : (((W.alloc (.cells #[.string ⟨#[97]⟩, .int .u32 0, .int .i64 0, .int .i64 0, .string ⟨#[98]⟩, .int .u32 0, .int .i64 0, .int .i64 0] 30)).alloc (.cells #[.int .i64 0, .int .i64 1] 39)).alloc (.cells #[.int .i64 0, .int .i64 1] 3)).heap[W.heap.size + 1]? = some (.cells #[.int .i64 0, .int .i64 1] 39 (0, 0)) := alloc_old (alloc_at (by simp))
  have b2 : (((W.alloc (.cells #[.string ⟨#[97]⟩, .int .u32 0, .int .i64 0, .int .i64 0, .string ⟨#[98]⟩, .int .u32 0, .int .i64 0, .int .i64 0] 30)).alloc (.cells #[.int .i64 0, .int .i64 1] 39)).alloc (.cells #[.int .i64 0, .int .i64 1] 3)).heap[W.heap.size + 1 + 1]? = some (.cells #[.int .i64 0, .int .i64 1] 3 (0, 0)) := alloc_at (by simp)
  have hz : W.heap.size + 1 + 1 < (((W.alloc (.cells #[.string ⟨#[97]⟩, .int .u32 0, .int .i64 0, .int .i64 0, .string ⟨#[98]⟩, .int .u32 0, .int .i64 0, .int .i64 0] 30)).alloc (.cells #[.int .i64 0, .int .i64 1] 39)).alloc (.cells #[.int .i64 0, .int .i64 1] 3)).heap.size := by simp
  have key : ∀ W3 : World, Below W.heap.size W W3 → W3.cell? ⟨0, 0, none⟩ = some (.int .u32 4294967295) → W3.cell? ⟨0, 1, none⟩ = some (.int .u32 4294967295) → W3.heap[W.heap.size]? = some (.cells #[.string ⟨#[97]⟩, .int .u32 0, .int .i64 0, .int .i64 0, .string ⟨#[98]⟩, .int .u32 0, .int .i64 0, .int .i64 0] 30 (0, 0)) → W3.heap[W.heap.size + 1]? = some (.cells #[.int .i64 0, .int .i64 1] 39 (0, 0)) → W3.heap[W.heap.size + 1 + 1]? = some (.cells #[.int .i64 0, .int .i64 1] 3 (0, 0)) → W.heap.size + 1 + 1 < W3.heap.size →
      Calls Tryd.prog 7 #[.slice (some ⟨W.heap.size, 0, none⟩) 2 2, .slice (some ⟨W.heap.size + 1, 0, none⟩) 1 1, .slice (some ⟨W.heap.size + 1 + 1, 0, none⟩) 2 2] W3 fun e w' => (∃ (g cap : Nat) (r2 : Value), e = .returned (.tuple #[.slice (some ⟨g, 0, none⟩) 2 cap, r2]) ∧ w'.cell? ⟨g, 0, none⟩ = some (.int .i64 1) ∧ w'.cell? ⟨g, 1, none⟩ = some (.int .i64 1)) ∧ Below W.heap.size W w' := by
    intro W3 hb g0 g1 b0 b1 b2 hz
    refine (implMerged W3 W3.heap.size (some ⟨W.heap.size, 0, none⟩) 2 ab _ _ [(0, 1)] [0, 1] ?_ (Nat.le_refl 2) (by show 2 ≤ 200; decide) (by show 0 < 2; decide) ?_ g0 g1 ?_ ?_ (Nat.le_refl _) ?_ (by show 1 ≤ 800; decide) ?_ (by show 2 ≤ 800; decide)).mono ?_
    · refine ⟨rfl, by show 2 ≤ maxLen; unfold maxLen; omega, fun _ => ⟨_, rfl, fun j p hp => ⟨_, rfl, k30_mk W3 p, fun i u hu => ?_⟩⟩⟩
      rw [show (⟨W.heap.size, 0, none⟩ : Addr).add (j * k30.sz + i) = ⟨W.heap.size, j * 4 + i, none⟩ by simp [Addr.add, show k30.sz = 4 from rfl]; omega, blk_cell b0 (j * 4 + i)]
      have hj : j < 2 := (List.getElem?_eq_some_iff.1 hp).1
      have hi : i < 4 := (List.getElem?_eq_some_iff.1 hu).1
      match j, hj, i, hi with
      | 0, _, 0, _ => cases hp; cases hu; rfl
      | 0, _, 1, _ => cases hp; cases hu; rfl
      | 0, _, 2, _ => cases hp; cases hu; rfl
      | 0, _, 3, _ => cases hp; cases hu; rfl
      | 1, _, 0, _ => cases hp; cases hu; rfl
      | 1, _, 1, _ => cases hp; cases hu; rfl
      | 1, _, 2, _ => cases hp; cases hu; rfl
      | 1, _, 3, _ => cases hp; cases hu; rfl
    · intro x hx
      simp only [ab, List.mem_cons, List.not_mem_nil, or_false] at hx
      rcases hx with rfl | rfl <;> exact ⟨by decide, by decide⟩
    · refine ⟨_, 1, rfl, Nat.le_refl _, fun i hi => ?_⟩
      obtain rfl : i = 0 := by simpa using hi
      exact ⟨_, rfl, by omega, blk_cell b1 0, blk_cell b1 1⟩
    · refine ⟨_, 2, rfl, Nat.le_refl _, fun i hi => ⟨_, rfl, by omega, ?_⟩⟩
      have hi : i < 2 := hi
      match i, hi with
      | 0, _ => exact blk_cell b2 0
      | 1, _ => exact blk_cell b2 1
    · intro p hp
      simp only [List.mem_cons, List.not_mem_nil, or_false] at hp
      subst hp
      exact ⟨by decide, by decide⟩
    · intro x hx
      simp only [List.mem_cons, List.not_mem_nil, or_false] at hx
      rcases hx with rfl | rfl <;> (show _ < 2; decide)
    · rintro e w' ⟨r1, r2, L, rfl, hr, _, _, hb'⟩
      refine ⟨?_, hb.trans (hb'.mono (by omega))⟩
      obtain ⟨A, cap, rfl, hc, hat⟩ := hr
      obtain ⟨g, rfl, _, c0⟩ := hat 0 (by show 0 < 2; decide)
      obtain ⟨g', hg', _, c1⟩ := hat 1 (by show 1 < 2; decide)
      obtain rfl : g = g' := by simpa using hg'
      exact ⟨g, cap, r2, rfl, c0, c1⟩
  have KEY := Lib.hid (key _ hb g0' g1' b0 b1 b2 hz)
  clear key hb g0' g1' b0 b1 b2 hz g0 g1 h0
  go_enter Tryd.func6, Tryd.ntmps6
  go_wp2_with (go_at_call 7; refine KEY.out.mono ?_)
  rintro e w' ⟨⟨g, cap, r2, rfl, c0, c1⟩, hb⟩
  have HB := Lib.hid hb
  clear hb KEY
  go_wp2_with (fail)
  go_ret
  exact ⟨rfl, HB.out⟩
end Go.Proofs.YtlhepbgonecgpaaDoor.fnMergedUses
