/-
  FnMergedUses: the walks of impl.Merged's two closures, and of slices.IndexFunc and slices.ContainsFunc over them: no number is out of range.
  Conditions: the numbers are those of symbols.
-/
import Derived.Test.YtlhepbgonecgpaaDoorFnMergedUsesTold
namespace Go.Proofs.YtlhepbgonecgpaaDoor.fnMergedUses
open Go.RowKit Go.Proofs.YtlhepbgonecgpaaDoorW.PrintWords Go.Proofs.YtlhepbgonecgpaaDoorW.PrintLast Go.Proofs.YtlhepbgonecgpaaDoorW.PrintMore Go.Proofs.YtlhepbgonecgpaaDoor.PFnMergedUses
set_option linter.unusedVariables false
set_option linter.unusedSimpArgs false

/-- what the closures read: the symbols, and the first closure -/
structure Env (W : World) (FB OB n : Nat) : Prop where
  f : ∃ A cap, W.cell? ⟨FB, 0, none⟩ = some (.slice A n cap)
  o : W.cell? ⟨OB, 0, none⟩ = some (.func (.func 12) #[] #[.pointer (some ⟨FB, 0, none⟩)])
theorem Env.keep {W W' : World} {FB OB n : Nat} (h : Env W FB OB n) (hb : Below W.heap.size W W') : Env W' FB OB n := by
  obtain ⟨A, cap, hf⟩ := h.f
  exact ⟨⟨A, cap, (hb.cell (by have := World.block_lt_of_cell? W _ hf; exact this)).trans hf⟩, (hb.cell (by have := World.block_lt_of_cell? W _ h.o; exact this)).trans h.o⟩
set_option maxHeartbeats 4000000 in
set_option maxRecDepth 100000 in
theorem out (W : World) (FB n x : Nat) (A : Option Addr) (cap : Nat) (hf : W.cell? ⟨FB, 0, none⟩ = some (.slice A n cap)) (hx : x < n) :
    Calls Tryd.prog 12 #[.int .i64 x, .pointer (some ⟨FB, 0, none⟩)] W fun e w' => e = .returned (.bool false) ∧ Below W.heap.size W w' := by
  have x0 : ¬ (x : Int) < 0 := by omega
  have x1 : ¬ (n : Int) ≤ x := by omega
  go_enter Tryd.func12, Tryd.ntmps12
  go_wp2_with (fail)
  go_ret
  exact ⟨rfl, by first | exact Below.refl _ _ | (repeat (first | exact Below.refl _ _ | apply Below.drew))⟩
set_option maxHeartbeats 4000000 in
set_option maxRecDepth 100000 in
theorem outPair (W : World) (FB OB n a b : Nat) (he : Env W FB OB n) (ha : a < n) (hb : b < n) :
    Calls Tryd.prog 14 #[.agg #[.int .i64 a, .int .i64 b], .pointer (some ⟨OB, 0, none⟩)] W fun e w' => e = .returned (.bool false) ∧ Below W.heap.size W w' := by
  have hb1 : Below W.heap.size W (W.alloc (.cells #[.int .i64 a, .int .i64 b] 39)) := (Below.refl _ _).alloc (Nat.le_refl _) _
  have h1 := he.keep hb1
  have c0 : (W.alloc (.cells #[.int .i64 a, .int .i64 b] 39)).cell? ⟨W.heap.size, 0, none⟩ = some (.int .i64 a) := blk_cell (heap_alloc_new W _) 0
  have c1 : (W.alloc (.cells #[.int .i64 a, .int .i64 b] 39)).cell? ⟨W.heap.size, 1, none⟩ = some (.int .i64 b) := blk_cell (heap_alloc_new W _) 1
  have ho := h1.o
  have hs : W.heap.size < (W.alloc (.cells #[.int .i64 a, .int .i64 b] 39)).heap.size := by simp
  have HB1 := Lib.hid hb1
  have HE1 := Lib.hid h1
  clear hb1 h1
  go_enter Tryd.func14, Tryd.ntmps14
  obtain ⟨A, cap, hf⟩ := HE1.out.f
  have HF := Lib.hid hf
  clear hf
  go_wp2_with (go_at_call 12; refine (out _ FB n a A cap HF.out ha).mono ?_)
  rintro e w2 ⟨rfl, hb2⟩
  have ho : w2.cell? ⟨OB, 0, none⟩ = some (.func (.func 12) #[] #[.pointer (some ⟨FB, 0, none⟩)]) := (HE1.out.keep hb2).o
  have c1 : w2.cell? ⟨W.heap.size, 1, none⟩ = some (.int .i64 b) := (hb2.cell (by exact hs)).trans c1
  have hf : w2.cell? ⟨FB, 0, none⟩ = some (.slice A n cap) := (hb2.cell (by exact World.block_lt_of_cell? _ _ HF.out)).trans HF.out
  have HB2 := Lib.hid (HB1.out.trans (hb2.mono (Nat.le_of_lt hs)))
  have HF2 := Lib.hid hf
  clear hb2 hf
  go_wp2_with (go_at_call 12; refine (out _ FB n b A cap HF2.out hb).mono ?_)
  rintro e w3 ⟨rfl, hb3⟩
  have HB3 := Lib.hid (HB2.out.trans (hb3.mono HB2.out.size))
  clear hb3
  go_wp2_with (fail)
  go_ret
  exact ⟨rfl, HB3.out⟩
set_option maxHeartbeats 4000000 in
set_option maxRecDepth 100000 in
theorem indexN (W : World) (FB OB n N : Nat) (v : Value) (S : List Nat) (he : Env W FB OB n) (hv : RA W N v S.length (cellsN S)) (hN : N ≤ W.heap.size) (hS : ∀ x ∈ S, x < n) (hl : S.length ≤ 1000) :
    Calls Tryd.prog 21 #[v, .func (.func 12) #[] #[.pointer (some ⟨FB, 0, none⟩)]] W fun e w' => e = .returned (.int .i64 (-1)) ∧ Below W.heap.size W w' := by
  obtain ⟨A, cap, rfl, hcap, hat⟩ := hv
  have HAT := Lib.hid hat
  have HE := Lib.hid he
  have HS := Lib.hid hS
  clear hat he hS
  go_enter Tryd.func21, Tryd.ntmps21
  go_wp2_with (fail)
  go_loopw [8] (fun v8 wr => ∃ x : Nat, v8 = .int .i64 x ∧ x ≤ S.length ∧ Hid (Below W.heap.size W wr)) (fun v8 _ => S.length - (intOf v8).toNat)
  case atStart => exact ⟨0, rfl, Nat.zero_le _, Lib.hid (Below.refl _ _)⟩
  case round =>
    obtain ⟨x, rfl, hxl, HB⟩ := hrel
    by_cases hx : x < S.length
    · have hx' : (x : Int) < S.length := by omega
      have x0 : (0 : Int) ≤ x := by omega
      obtain ⟨g, rfl, hg, c1⟩ := HAT.out x hx
      have hsx : S[x] < n := HS.out _ (List.getElem_mem hx)
      have c1 : wr.cell? ⟨g, x, none⟩ = some (.int .i64 S[x]) := (HB.out.cell (by exact Nat.lt_of_lt_of_le hg hN)).trans (c1.trans (by simp [cellsN, hx]))
      generalize S[x] = sx at *
      obtain ⟨A, cap, hf⟩ := (HE.out.keep HB.out).f
      have HF := Lib.hid hf
      clear hf
      have wx : IntKind.i64.wrap ((x : Int) + 1) = ((x + 1 : Nat) : Int) := by rw [IntKind.wrap_i64]; omega
      go_wp2_with (go_at_call 12; refine (out _ FB n sx A cap HF.out hsx).mono ?_)
      rintro e w2 ⟨rfl, hb2⟩
      have HB2 := Lib.hid (HB.out.trans (hb2.mono HB.out.size))
      clear hb2
      go_wp2_with (fail)
      go_roundw
      case rel => exact ⟨x + 1, by simp [wx], by omega, HB2⟩
      case measure =>
        simp only [intOf]
        omega
    · have hx' : ¬ (x : Int) < S.length := by omega
      go_wp2_with (fail)
      go_ret
      exact ⟨rfl, HB.out⟩
set_option maxHeartbeats 4000000 in
set_option maxRecDepth 100000 in
theorem hasN (W : World) (FB OB n N : Nat) (v : Value) (S : List Nat) (he : Env W FB OB n) (hv : RA W N v S.length (cellsN S)) (hN : N ≤ W.heap.size) (hS : ∀ x ∈ S, x < n) (hl : S.length ≤ 1000) :
    Calls Tryd.prog 15 #[v, .func (.func 12) #[] #[.pointer (some ⟨FB, 0, none⟩)]] W fun e w' => e = .returned (.bool false) ∧ Below W.heap.size W w' := by
  have H := Lib.hid (indexN W FB OB n N v S he hv hN hS hl)
  clear he hv hS
  go_enter Tryd.func15, Tryd.ntmps15
  go_wp2_with (go_at_call 21; refine (H.out).mono ?_)
  rintro e w2 ⟨rfl, hb2⟩
  have HB2 := Lib.hid hb2
  clear hb2
  go_wp2_with (fail)
  go_ret
  exact ⟨rfl, HB2.out⟩
set_option maxHeartbeats 4000000 in
set_option maxRecDepth 100000 in
theorem indexP (W : World) (FB OB n N : Nat) (v : Value) (ps : List (Nat × Nat)) (he : Env W FB OB n) (hv : PR W N v ps) (hN : N ≤ W.heap.size) (hps : ∀ p ∈ ps, p.1 < n ∧ p.2 < n) (hl : ps.length ≤ 1000) :
    Calls Tryd.prog 20 #[v, .func (.func 14) #[] #[.pointer (some ⟨OB, 0, none⟩)]] W fun e w' => e = .returned (.int .i64 (-1)) ∧ Below W.heap.size W w' := by
  obtain ⟨A, cap, rfl, hcap, hat⟩ := hv
  have HAT := Lib.hid hat
  have HE := Lib.hid he
  have HPS := Lib.hid hps
  clear hat he hps
  go_enter Tryd.func20, Tryd.ntmps20
  go_wp2_with (fail)
  go_loopw [8] (fun v8 wr => ∃ x : Nat, v8 = .int .i64 x ∧ x ≤ ps.length ∧ Hid (Below W.heap.size W wr)) (fun v8 _ => ps.length - (intOf v8).toNat)
  case atStart => exact ⟨0, rfl, Nat.zero_le _, Lib.hid (Below.refl _ _)⟩
  case round =>
    obtain ⟨x, rfl, hxl, HB⟩ := hrel
    by_cases hx : x < ps.length
    · have hx' : (x : Int) < ps.length := by omega
      have x0 : (0 : Int) ≤ x := by omega
      obtain ⟨g, rfl, hg, c1, c2⟩ := HAT.out x hx
      obtain ⟨ha, hb⟩ := HPS.out _ (List.getElem_mem hx)
      have c1 : wr.cell? ⟨g, x * 2, none⟩ = some (.int .i64 (ps[x]).1) := (HB.out.cell (by exact Nat.lt_of_lt_of_le hg hN)).trans c1
      have c2 : wr.cell? ⟨g, x * 2 + 1, none⟩ = some (.int .i64 (ps[x]).2) := (HB.out.cell (by exact Nat.lt_of_lt_of_le hg hN)).trans c2
      generalize (ps[x]).1 = a at *
      generalize (ps[x]).2 = b at *
      have HE2 := Lib.hid (HE.out.keep HB.out)
      have wx : IntKind.i64.wrap ((x : Int) + 1) = ((x + 1 : Nat) : Int) := by rw [IntKind.wrap_i64]; omega
      go_wp2_with (go_at_call 14; refine (outPair _ FB OB n a b HE2.out ha hb).mono ?_)
      rintro e w2 ⟨rfl, hb2⟩
      have HB2 := Lib.hid (HB.out.trans (hb2.mono HB.out.size))
      clear hb2
      go_wp2_with (fail)
      go_roundw
      case rel => exact ⟨x + 1, by simp [wx], by omega, HB2⟩
      case measure =>
        simp only [intOf]
        omega
    · have hx' : ¬ (x : Int) < ps.length := by omega
      go_wp2_with (fail)
      go_ret
      exact ⟨rfl, HB.out⟩
set_option maxHeartbeats 4000000 in
set_option maxRecDepth 100000 in
theorem hasP (W : World) (FB OB n N : Nat) (v : Value) (ps : List (Nat × Nat)) (he : Env W FB OB n) (hv : PR W N v ps) (hN : N ≤ W.heap.size) (hps : ∀ p ∈ ps, p.1 < n ∧ p.2 < n) (hl : ps.length ≤ 1000) :
    Calls Tryd.prog 13 #[v, .func (.func 14) #[] #[.pointer (some ⟨OB, 0, none⟩)]] W fun e w' => e = .returned (.bool false) ∧ Below W.heap.size W w' := by
  have H := Lib.hid (indexP W FB OB n N v ps he hv hN hps hl)
  clear he hv hps
  go_enter Tryd.func13, Tryd.ntmps13
  go_wp2_with (go_at_call 20; refine (H.out).mono ?_)
  rintro e w2 ⟨rfl, hb2⟩
  have HB2 := Lib.hid hb2
  clear hb2
  go_wp2_with (fail)
  go_ret
  exact ⟨rfl, HB2.out⟩
end Go.Proofs.YtlhepbgonecgpaaDoor.fnMergedUses
