/-
  spec.uses: which fields, parts and flags a kind has.
  Conditions: none.
-/
import Derived.Test.YtacokmkbikdmmaaGreatDoorProper
import Derived.Test.YtacokmkbikdmmaaGreatDoorPFnChainsx1
namespace Go.Proofs.YtacokmkbikdmmaaGreatDoor.trees
open Go Go.RowKit
set_option linter.unusedVariables false
set_option linter.unusedSimpArgs false

theorem uses_some (a : Int) : ∃ r1 r2 r3 r4, PFnChains.spec_uses.f 5 a = some (r1, r2, r3, r4) := by
  by_cases h : 0 ≤ a ∧ a ≤ 26
  · rcases (show a = 0 ∨ a = 1 ∨ a = 2 ∨ a = 3 ∨ a = 4 ∨ a = 5 ∨ a = 6 ∨ a = 7 ∨ a = 8 ∨ a = 9 ∨ a = 10 ∨ a = 11 ∨ a = 12 ∨ a = 13 ∨ a = 14 ∨ a = 15 ∨ a = 16 ∨ a = 17 ∨ a = 18 ∨ a = 19 ∨ a = 20 ∨ a = 21 ∨ a = 22 ∨ a = 23 ∨ a = 24 ∨ a = 25 ∨ a = 26 by omega) with rfl | rfl | rfl | rfl | rfl | rfl | rfl | rfl | rfl | rfl | rfl | rfl | rfl | rfl | rfl | rfl | rfl | rfl | rfl | rfl | rfl | rfl | rfl | rfl | rfl | rfl | rfl
    all_goals exact ⟨_, _, _, _, rfl⟩
  · refine ⟨0, 1, 0, 0, ?_⟩
    simp [PFnChains.spec_uses.f, PFnChains.spec_uses.j0, PFnChains.spec_uses.j1, PFnChains.spec_uses.j2, show a ≠ 0 by omega, show a ≠ 1 by omega, show a ≠ 2 by omega, show a ≠ 3 by omega, show a ≠ 4 by omega, show a ≠ 5 by omega, show a ≠ 6 by omega, show a ≠ 7 by omega, show a ≠ 8 by omega, show a ≠ 9 by omega, show a ≠ 10 by omega, show a ≠ 11 by omega, show a ≠ 12 by omega, show a ≠ 13 by omega, show a ≠ 14 by omega, show a ≠ 15 by omega, show a ≠ 16 by omega, show a ≠ 17 by omega, show a ≠ 18 by omega, show a ≠ 19 by omega, show a ≠ 20 by omega, show a ≠ 21 by omega, show a ≠ 22 by omega, show a ≠ 23 by omega, show a ≠ 24 by omega, show a ≠ 25 by omega, show a ≠ 26 by omega]
theorem uses_kind (x : X) (r1 r2 r3 r4 : Int) (hu : PFnChains.spec_uses.f 5 x.kind = some (r1, r2, r3, r4)) (lo : 0 ≤ x.kind) (hi : x.kind ≤ 26) (h1 : r2 ≤ x.kn) (h2 : x.kn ≤ r3) (f0 : 0 ≤ x.flags) (f1 : bits .andNot .i64 x.flags r4 = 0) (z1 : bits .and .i64 r1 1 = 0 → x.op = 0) (z2 : bits .and .i64 r1 2 = 0 → x.ref = 0) (z3 : bits .and .i64 r1 4 = 0 → x.chain = 0) (z4 : bits .and .i64 r1 8 = 0 → x.num = 0) (z5 : bits .and .i64 r1 16 = 0 → x.sn = 0) (z6 : bits .and .i64 r1 32 = 0 → x.text.toList.isEmpty = true) (z7 : bits .and .i64 r1 64 = 0 → x.pn = 0) (z8 : bits .and .i64 r1 128 = 0 → x.qn = 0) : Kn x ∧ Kz x := by
  rcases (show x.kind = 0 ∨ x.kind = 1 ∨ x.kind = 2 ∨ x.kind = 3 ∨ x.kind = 4 ∨ x.kind = 5 ∨ x.kind = 6 ∨ x.kind = 7 ∨ x.kind = 8 ∨ x.kind = 9 ∨ x.kind = 10 ∨ x.kind = 11 ∨ x.kind = 12 ∨ x.kind = 13 ∨ x.kind = 14 ∨ x.kind = 15 ∨ x.kind = 16 ∨ x.kind = 17 ∨ x.kind = 18 ∨ x.kind = 19 ∨ x.kind = 20 ∨ x.kind = 21 ∨ x.kind = 22 ∨ x.kind = 23 ∨ x.kind = 24 ∨ x.kind = 25 ∨ x.kind = 26 by omega) with hk | hk | hk | hk | hk | hk | hk | hk | hk | hk | hk | hk | hk | hk | hk | hk | hk | hk | hk | hk | hk | hk | hk | hk | hk | hk | hk
  · rw [hk] at hu
    have e := hu.symm.trans (rfl : PFnChains.spec_uses.f 5 0 = some (0, 0, 0, 0))
    cases e
    have y1 := z1 (by decide)
    have y2 := z2 (by decide)
    have y3 := z3 (by decide)
    have y4 := z4 (by decide)
    have y5 := z5 (by decide)
    have y6 := z6 (by decide)
    have y7 := z7 (by decide)
    have y8 := z8 (by decide)
    clear z1 z2 z3 z4 z5 z6 z7 z8
    refine ⟨⟨lo, hi, by omega, by omega, by omega, by omega, by omega, by omega, by omega, by omega, by omega, by omega⟩, ⟨by omega, by omega, by omega, by omega, by omega, Or.inr (Or.inr (Or.inr (Or.inr (Or.inr y6)))), by omega, by omega, by omega, f0, ?_⟩⟩
    rw [hk]
    exact f1
  · rw [hk] at hu
    have e := hu.symm.trans (rfl : PFnChains.spec_uses.f 5 1 = some (0, 0, 0, 0))
    cases e
    have y1 := z1 (by decide)
    have y2 := z2 (by decide)
    have y3 := z3 (by decide)
    have y4 := z4 (by decide)
    have y5 := z5 (by decide)
    have y6 := z6 (by decide)
    have y7 := z7 (by decide)
    have y8 := z8 (by decide)
    clear z1 z2 z3 z4 z5 z6 z7 z8
    refine ⟨⟨lo, hi, by omega, by omega, by omega, by omega, by omega, by omega, by omega, by omega, by omega, by omega⟩, ⟨by omega, by omega, by omega, by omega, by omega, Or.inr (Or.inr (Or.inr (Or.inr (Or.inr y6)))), by omega, by omega, by omega, f0, ?_⟩⟩
    rw [hk]
    exact f1
  · rw [hk] at hu
    have e := hu.symm.trans (rfl : PFnChains.spec_uses.f 5 2 = some (8, 0, 0, 0))
    cases e
    have y1 := z1 (by decide)
    have y2 := z2 (by decide)
    have y3 := z3 (by decide)
    have y5 := z5 (by decide)
    have y6 := z6 (by decide)
    have y7 := z7 (by decide)
    have y8 := z8 (by decide)
    clear z1 z2 z3 z4 z5 z6 z7 z8
    refine ⟨⟨lo, hi, by omega, by omega, by omega, by omega, by omega, by omega, by omega, by omega, by omega, by omega⟩, ⟨by omega, by omega, by omega, by omega, by omega, Or.inr (Or.inr (Or.inr (Or.inr (Or.inr y6)))), by omega, by omega, by omega, f0, ?_⟩⟩
    rw [hk]
    exact f1
  · rw [hk] at hu
    have e := hu.symm.trans (rfl : PFnChains.spec_uses.f 5 3 = some (8, 0, 0, 0))
    cases e
    have y1 := z1 (by decide)
    have y2 := z2 (by decide)
    have y3 := z3 (by decide)
    have y5 := z5 (by decide)
    have y6 := z6 (by decide)
    have y7 := z7 (by decide)
    have y8 := z8 (by decide)
    clear z1 z2 z3 z4 z5 z6 z7 z8
    refine ⟨⟨lo, hi, by omega, by omega, by omega, by omega, by omega, by omega, by omega, by omega, by omega, by omega⟩, ⟨by omega, by omega, by omega, by omega, by omega, Or.inr (Or.inr (Or.inr (Or.inr (Or.inr y6)))), by omega, by omega, by omega, f0, ?_⟩⟩
    rw [hk]
    exact f1
  · rw [hk] at hu
    have e := hu.symm.trans (rfl : PFnChains.spec_uses.f 5 4 = some (16, 0, 0, 256))
    cases e
    have y1 := z1 (by decide)
    have y2 := z2 (by decide)
    have y3 := z3 (by decide)
    have y4 := z4 (by decide)
    have y6 := z6 (by decide)
    have y7 := z7 (by decide)
    have y8 := z8 (by decide)
    clear z1 z2 z3 z4 z5 z6 z7 z8
    refine ⟨⟨lo, hi, by omega, by omega, by omega, by omega, by omega, by omega, by omega, by omega, by omega, by omega⟩, ⟨by omega, by omega, by omega, by omega, by omega, Or.inr (Or.inr (Or.inr (Or.inr (Or.inr y6)))), by omega, by omega, by omega, f0, ?_⟩⟩
    rw [hk]
    exact f1
  · rw [hk] at hu
    have e := hu.symm.trans (rfl : PFnChains.spec_uses.f 5 5 = some (32, 0, 0, 0))
    cases e
    have y1 := z1 (by decide)
    have y2 := z2 (by decide)
    have y3 := z3 (by decide)
    have y4 := z4 (by decide)
    have y5 := z5 (by decide)
    have y7 := z7 (by decide)
    have y8 := z8 (by decide)
    clear z1 z2 z3 z4 z5 z6 z7 z8
    refine ⟨⟨lo, hi, by omega, by omega, by omega, by omega, by omega, by omega, by omega, by omega, by omega, by omega⟩, ⟨by omega, by omega, by omega, by omega, by omega, by simp [hk], by omega, by omega, by omega, f0, ?_⟩⟩
    rw [hk]
    exact f1
  · rw [hk] at hu
    have e := hu.symm.trans (rfl : PFnChains.spec_uses.f 5 6 = some (32, 0, 0, 0))
    cases e
    have y1 := z1 (by decide)
    have y2 := z2 (by decide)
    have y3 := z3 (by decide)
    have y4 := z4 (by decide)
    have y5 := z5 (by decide)
    have y7 := z7 (by decide)
    have y8 := z8 (by decide)
    clear z1 z2 z3 z4 z5 z6 z7 z8
    refine ⟨⟨lo, hi, by omega, by omega, by omega, by omega, by omega, by omega, by omega, by omega, by omega, by omega⟩, ⟨by omega, by omega, by omega, by omega, by omega, by simp [hk], by omega, by omega, by omega, f0, ?_⟩⟩
    rw [hk]
    exact f1
  · rw [hk] at hu
    have e := hu.symm.trans (rfl : PFnChains.spec_uses.f 5 7 = some (0, 0, 0, 0))
    cases e
    have y1 := z1 (by decide)
    have y2 := z2 (by decide)
    have y3 := z3 (by decide)
    have y4 := z4 (by decide)
    have y5 := z5 (by decide)
    have y6 := z6 (by decide)
    have y7 := z7 (by decide)
    have y8 := z8 (by decide)
    clear z1 z2 z3 z4 z5 z6 z7 z8
    refine ⟨⟨lo, hi, by omega, by omega, by omega, by omega, by omega, by omega, by omega, by omega, by omega, by omega⟩, ⟨by omega, by omega, by omega, by omega, by omega, Or.inr (Or.inr (Or.inr (Or.inr (Or.inr y6)))), by omega, by omega, by omega, f0, ?_⟩⟩
    rw [hk]
    exact f1
  · rw [hk] at hu
    have e := hu.symm.trans (rfl : PFnChains.spec_uses.f 5 8 = some (2, 0, 0, 11))
    cases e
    have y1 := z1 (by decide)
    have y3 := z3 (by decide)
    have y4 := z4 (by decide)
    have y5 := z5 (by decide)
    have y6 := z6 (by decide)
    have y7 := z7 (by decide)
    have y8 := z8 (by decide)
    clear z1 z2 z3 z4 z5 z6 z7 z8
    refine ⟨⟨lo, hi, by omega, by omega, by omega, by omega, by omega, by omega, by omega, by omega, by omega, by omega⟩, ⟨by omega, by omega, by omega, by omega, by omega, Or.inr (Or.inr (Or.inr (Or.inr (Or.inr y6)))), by omega, by omega, by omega, f0, ?_⟩⟩
    rw [hk]
    exact f1
  · rw [hk] at hu
    have e := hu.symm.trans (rfl : PFnChains.spec_uses.f 5 9 = some (0, 1, 0, 0))
    cases e
    exfalso
    omega
  · rw [hk] at hu
    have e := hu.symm.trans (rfl : PFnChains.spec_uses.f 5 10 = some (0, 1, 0, 0))
    cases e
    exfalso
    omega
  · rw [hk] at hu
    have e := hu.symm.trans (rfl : PFnChains.spec_uses.f 5 11 = some (0, 0, 200, 0))
    cases e
    have y1 := z1 (by decide)
    have y2 := z2 (by decide)
    have y3 := z3 (by decide)
    have y4 := z4 (by decide)
    have y5 := z5 (by decide)
    have y6 := z6 (by decide)
    have y7 := z7 (by decide)
    have y8 := z8 (by decide)
    clear z1 z2 z3 z4 z5 z6 z7 z8
    refine ⟨⟨lo, hi, by omega, by omega, by omega, by omega, by omega, by omega, by omega, by omega, by omega, by omega⟩, ⟨by omega, by omega, by omega, by omega, by omega, Or.inr (Or.inr (Or.inr (Or.inr (Or.inr y6)))), by omega, by omega, by omega, f0, ?_⟩⟩
    rw [hk]
    exact f1
  · rw [hk] at hu
    have e := hu.symm.trans (rfl : PFnChains.spec_uses.f 5 12 = some (64, 0, 0, 0))
    cases e
    have y1 := z1 (by decide)
    have y2 := z2 (by decide)
    have y3 := z3 (by decide)
    have y4 := z4 (by decide)
    have y5 := z5 (by decide)
    have y6 := z6 (by decide)
    have y8 := z8 (by decide)
    clear z1 z2 z3 z4 z5 z6 z7 z8
    refine ⟨⟨lo, hi, by omega, by omega, by omega, by omega, by omega, by omega, by omega, by omega, by omega, by omega⟩, ⟨by omega, by omega, by omega, by omega, by omega, Or.inr (Or.inr (Or.inr (Or.inr (Or.inr y6)))), by omega, by omega, by omega, f0, ?_⟩⟩
    rw [hk]
    exact f1
  · rw [hk] at hu
    have e := hu.symm.trans (rfl : PFnChains.spec_uses.f 5 13 = some (1, 1, 1, 48))
    cases e
    have y2 := z2 (by decide)
    have y3 := z3 (by decide)
    have y4 := z4 (by decide)
    have y5 := z5 (by decide)
    have y6 := z6 (by decide)
    have y7 := z7 (by decide)
    have y8 := z8 (by decide)
    clear z1 z2 z3 z4 z5 z6 z7 z8
    refine ⟨⟨lo, hi, by omega, by omega, by omega, by omega, by omega, by omega, by omega, by omega, by omega, by omega⟩, ⟨by omega, by omega, by omega, by omega, by omega, Or.inr (Or.inr (Or.inr (Or.inr (Or.inr y6)))), by omega, by omega, by omega, f0, ?_⟩⟩
    rw [hk]
    exact f1
  · rw [hk] at hu
    have e := hu.symm.trans (rfl : PFnChains.spec_uses.f 5 14 = some (1, 2, 2, 0))
    cases e
    have y2 := z2 (by decide)
    have y3 := z3 (by decide)
    have y4 := z4 (by decide)
    have y5 := z5 (by decide)
    have y6 := z6 (by decide)
    have y7 := z7 (by decide)
    have y8 := z8 (by decide)
    clear z1 z2 z3 z4 z5 z6 z7 z8
    refine ⟨⟨lo, hi, by omega, by omega, by omega, by omega, by omega, by omega, by omega, by omega, by omega, by omega⟩, ⟨by omega, by omega, by omega, by omega, by omega, Or.inr (Or.inr (Or.inr (Or.inr (Or.inr y6)))), by omega, by omega, by omega, f0, ?_⟩⟩
    rw [hk]
    exact f1
  · rw [hk] at hu
    have e := hu.symm.trans (rfl : PFnChains.spec_uses.f 5 15 = some (0, 3, 3, 0))
    cases e
    have y1 := z1 (by decide)
    have y2 := z2 (by decide)
    have y3 := z3 (by decide)
    have y4 := z4 (by decide)
    have y5 := z5 (by decide)
    have y6 := z6 (by decide)
    have y7 := z7 (by decide)
    have y8 := z8 (by decide)
    clear z1 z2 z3 z4 z5 z6 z7 z8
    refine ⟨⟨lo, hi, by omega, by omega, by omega, by omega, by omega, by omega, by omega, by omega, by omega, by omega⟩, ⟨by omega, by omega, by omega, by omega, by omega, Or.inr (Or.inr (Or.inr (Or.inr (Or.inr y6)))), by omega, by omega, by omega, f0, ?_⟩⟩
    rw [hk]
    exact f1
  · rw [hk] at hu
    have e := hu.symm.trans (rfl : PFnChains.spec_uses.f 5 16 = some (36, 1, 1, 7))
    cases e
    have y1 := z1 (by decide)
    have y2 := z2 (by decide)
    have y4 := z4 (by decide)
    have y5 := z5 (by decide)
    have y7 := z7 (by decide)
    have y8 := z8 (by decide)
    clear z1 z2 z3 z4 z5 z6 z7 z8
    refine ⟨⟨lo, hi, by omega, by omega, by omega, by omega, by omega, by omega, by omega, by omega, by omega, by omega⟩, ⟨by omega, by omega, by omega, by omega, by omega, by simp [hk], by omega, by omega, by omega, f0, ?_⟩⟩
    rw [hk]
    exact f1
  · rw [hk] at hu
    have e := hu.symm.trans (rfl : PFnChains.spec_uses.f 5 17 = some (4, 2, 2, 7))
    cases e
    have y1 := z1 (by decide)
    have y2 := z2 (by decide)
    have y4 := z4 (by decide)
    have y5 := z5 (by decide)
    have y6 := z6 (by decide)
    have y7 := z7 (by decide)
    have y8 := z8 (by decide)
    clear z1 z2 z3 z4 z5 z6 z7 z8
    refine ⟨⟨lo, hi, by omega, by omega, by omega, by omega, by omega, by omega, by omega, by omega, by omega, by omega⟩, ⟨by omega, by omega, by omega, by omega, by omega, Or.inr (Or.inr (Or.inr (Or.inr (Or.inr y6)))), by omega, by omega, by omega, f0, ?_⟩⟩
    rw [hk]
    exact f1
  · rw [hk] at hu
    have e := hu.symm.trans (rfl : PFnChains.spec_uses.f 5 18 = some (5, 1, 200, 64))
    cases e
    have y2 := z2 (by decide)
    have y4 := z4 (by decide)
    have y5 := z5 (by decide)
    have y6 := z6 (by decide)
    have y7 := z7 (by decide)
    have y8 := z8 (by decide)
    clear z1 z2 z3 z4 z5 z6 z7 z8
    refine ⟨⟨lo, hi, by omega, by omega, by omega, by omega, by omega, by omega, by omega, by omega, by omega, by omega⟩, ⟨by omega, by omega, by omega, by omega, by omega, Or.inr (Or.inr (Or.inr (Or.inr (Or.inr y6)))), by omega, by omega, by omega, f0, ?_⟩⟩
    rw [hk]
    exact f1
  · rw [hk] at hu
    have e := hu.symm.trans (rfl : PFnChains.spec_uses.f 5 19 = some (0, 1, 200, 64))
    cases e
    have y1 := z1 (by decide)
    have y2 := z2 (by decide)
    have y3 := z3 (by decide)
    have y4 := z4 (by decide)
    have y5 := z5 (by decide)
    have y6 := z6 (by decide)
    have y7 := z7 (by decide)
    have y8 := z8 (by decide)
    clear z1 z2 z3 z4 z5 z6 z7 z8
    refine ⟨⟨lo, hi, by omega, by omega, by omega, by omega, by omega, by omega, by omega, by omega, by omega, by omega⟩, ⟨by omega, by omega, by omega, by omega, by omega, Or.inr (Or.inr (Or.inr (Or.inr (Or.inr y6)))), by omega, by omega, by omega, f0, ?_⟩⟩
    rw [hk]
    exact f1
  · rw [hk] at hu
    have e := hu.symm.trans (rfl : PFnChains.spec_uses.f 5 20 = some (176, 0, 1, 192))
    cases e
    have y1 := z1 (by decide)
    have y2 := z2 (by decide)
    have y3 := z3 (by decide)
    have y4 := z4 (by decide)
    have y7 := z7 (by decide)
    clear z1 z2 z3 z4 z5 z6 z7 z8
    refine ⟨⟨lo, hi, by omega, by omega, by omega, by omega, by omega, by omega, by omega, by omega, by omega, by omega⟩, ⟨by omega, by omega, by omega, by omega, by omega, by simp [hk], by omega, by omega, by omega, f0, ?_⟩⟩
    rw [hk]
    exact f1
  · rw [hk] at hu
    have e := hu.symm.trans (rfl : PFnChains.spec_uses.f 5 21 = some (0, 0, 0, 0))
    cases e
    have y1 := z1 (by decide)
    have y2 := z2 (by decide)
    have y3 := z3 (by decide)
    have y4 := z4 (by decide)
    have y5 := z5 (by decide)
    have y6 := z6 (by decide)
    have y7 := z7 (by decide)
    have y8 := z8 (by decide)
    clear z1 z2 z3 z4 z5 z6 z7 z8
    refine ⟨⟨lo, hi, by omega, by omega, by omega, by omega, by omega, by omega, by omega, by omega, by omega, by omega⟩, ⟨by omega, by omega, by omega, by omega, by omega, Or.inr (Or.inr (Or.inr (Or.inr (Or.inr y6)))), by omega, by omega, by omega, f0, ?_⟩⟩
    rw [hk]
    exact f1
  · rw [hk] at hu
    have e := hu.symm.trans (rfl : PFnChains.spec_uses.f 5 22 = some (0, 0, 0, 0))
    cases e
    have y1 := z1 (by decide)
    have y2 := z2 (by decide)
    have y3 := z3 (by decide)
    have y4 := z4 (by decide)
    have y5 := z5 (by decide)
    have y6 := z6 (by decide)
    have y7 := z7 (by decide)
    have y8 := z8 (by decide)
    clear z1 z2 z3 z4 z5 z6 z7 z8
    refine ⟨⟨lo, hi, by omega, by omega, by omega, by omega, by omega, by omega, by omega, by omega, by omega, by omega⟩, ⟨by omega, by omega, by omega, by omega, by omega, Or.inr (Or.inr (Or.inr (Or.inr (Or.inr y6)))), by omega, by omega, by omega, f0, ?_⟩⟩
    rw [hk]
    exact f1
  · rw [hk] at hu
    have e := hu.symm.trans (rfl : PFnChains.spec_uses.f 5 23 = some (0, 1, 0, 0))
    cases e
    exfalso
    omega
  · rw [hk] at hu
    have e := hu.symm.trans (rfl : PFnChains.spec_uses.f 5 24 = some (32, 1, 1, 0))
    cases e
    have y1 := z1 (by decide)
    have y2 := z2 (by decide)
    have y3 := z3 (by decide)
    have y4 := z4 (by decide)
    have y5 := z5 (by decide)
    have y7 := z7 (by decide)
    have y8 := z8 (by decide)
    clear z1 z2 z3 z4 z5 z6 z7 z8
    refine ⟨⟨lo, hi, by omega, by omega, by omega, by omega, by omega, by omega, by omega, by omega, by omega, by omega⟩, ⟨by omega, by omega, by omega, by omega, by omega, by simp [hk], by omega, by omega, by omega, f0, ?_⟩⟩
    rw [hk]
    exact f1
  · rw [hk] at hu
    have e := hu.symm.trans (rfl : PFnChains.spec_uses.f 5 25 = some (0, 0, 0, 0))
    cases e
    have y1 := z1 (by decide)
    have y2 := z2 (by decide)
    have y3 := z3 (by decide)
    have y4 := z4 (by decide)
    have y5 := z5 (by decide)
    have y6 := z6 (by decide)
    have y7 := z7 (by decide)
    have y8 := z8 (by decide)
    clear z1 z2 z3 z4 z5 z6 z7 z8
    refine ⟨⟨lo, hi, by omega, by omega, by omega, by omega, by omega, by omega, by omega, by omega, by omega, by omega⟩, ⟨by omega, by omega, by omega, by omega, by omega, Or.inr (Or.inr (Or.inr (Or.inr (Or.inr y6)))), by omega, by omega, by omega, f0, ?_⟩⟩
    rw [hk]
    exact f1
  · rw [hk] at hu
    have e := hu.symm.trans (rfl : PFnChains.spec_uses.f 5 26 = some (0, 0, 0, 0))
    cases e
    have y1 := z1 (by decide)
    have y2 := z2 (by decide)
    have y3 := z3 (by decide)
    have y4 := z4 (by decide)
    have y5 := z5 (by decide)
    have y6 := z6 (by decide)
    have y7 := z7 (by decide)
    have y8 := z8 (by decide)
    clear z1 z2 z3 z4 z5 z6 z7 z8
    refine ⟨⟨lo, hi, by omega, by omega, by omega, by omega, by omega, by omega, by omega, by omega, by omega, by omega⟩, ⟨by omega, by omega, by omega, by omega, by omega, Or.inr (Or.inr (Or.inr (Or.inr (Or.inr y6)))), by omega, by omega, by omega, f0, ?_⟩⟩
    rw [hk]
    exact f1
end Go.Proofs.YtacokmkbikdmmaaGreatDoor.trees
