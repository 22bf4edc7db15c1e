/-
  FnFinalize: AddBytes of any bytes; the shifts in memory.
  Conditions: fewer than 2^32 bytes.
-/
import Derived.Test.YtdhaifcjhmmdlaaFnFinalizeDone
import Derived.Test.YtdhaifcjhmmdlaaFnFinalizeLoop
namespace Go.Proofs.Ytdhaifcjhmmdlaa.fnFinalize
open Go.RowKit Go.Proofs.YtdhaifcjhmmdlaaW.PrintWords Go.Proofs.YtdhaifcjhmmdlaaW.PrintLast Go.Proofs.YtdhaifcjhmmdlaaW.PrintMore
set_option linter.unusedVariables false
set_option linter.unusedSimpArgs false

theorem addAny (W : World) (B j : Nat) (X : List Nat) (rv : Value) (chs : Chs) (v : Value) (l : List UInt8) (hJ : Jo W B j X rv chs) (hC : Ck W X rv v l) (ht : tot chs + l.length < 4294967296) (hn : chs.length ≤ 1000000) :
    Calls Try.prog 20 #[.pointer (some ⟨j, 0, none⟩), v] W fun e w' => e = .returned (.tuple #[]) ∧ ∃ rv' chs', Jo w' B j X rv' chs' ∧ all chs' = all chs ++ l ∧ chs'.length = chs.length + 1 ∧ Gr j rv.ownBlock W w' := by
  refine (addBytes W B j X rv chs v l hJ hC ht hn).mono ?_
  rintro e w1 ⟨rfl, rv', h1, h2⟩
  refine ⟨rfl, rv', chs ++ [(v, l)], h1, ?_, by simp, h2⟩
  simp [all]
/-- bytes at a place -/
def Bs (W : World) (N : Nat) (v : Value) (l : List UInt8) : Prop :=
  ∃ g o cap, v = .slice (some ⟨g, o, none⟩) l.length cap ∧ l.length ≤ cap ∧ g < N ∧ ∀ i (hi : i < l.length), W.cell? ⟨g, o + i, none⟩ = some (bval l[i])
theorem Bs.bt {W : World} {N : Nat} {v : Value} {l : List UInt8} (h : Bs W N v l) : Bt W N v l := by
  obtain ⟨g, o, cap, h1, h2, h3, h4⟩ := h
  exact ⟨_, cap, h1, h2, fun i hi => ⟨g, o, rfl, h3, h4 i hi⟩⟩
theorem Bs.below {W W' : World} {N : Nat} {v : Value} {l : List UInt8} (h : Bs W N v l) (hb : Below N W W') : Bs W' N v l := by
  obtain ⟨g, o, cap, h1, h2, h3, h4⟩ := h
  exact ⟨g, o, cap, h1, h2, h3, fun i hi => (cell_of' (hb.block g h3)).trans (h4 i hi)⟩
/-- a part of it is a piece -/
theorem Bs.part {W : World} {N : Nat} {X : List Nat} {rv : Value} {g o cap : Nat} {l : List UInt8} (p q : Nat) (hpq : p ≤ q) (hq : q ≤ l.length) (hg : g < N) (hN : N ≤ W.heap.size)
    (hX : ∀ x ∈ X, N ≤ x) (hr : ∀ k, rv.ownBlock = some k → N ≤ k) (h : ∀ i (hi : i < l.length), W.cell? ⟨g, o + i, none⟩ = some (bval l[i])) (a : Option Addr) (c : Nat) (hc : q - p ≤ c) (n : Nat) (hn : n = q - p) (ha : p < q → a = some ⟨g, o + p, none⟩) :
    Ck W X rv (.slice a n c) ((l.take q).drop p) := by
  have hlen : ((l.take q).drop p).length = q - p := by simp; omega
  refine ⟨a, c, by rw [hlen, hn], by rw [hlen]; exact hc, fun i hi => ?_⟩
  rw [hlen] at hi
  refine ⟨g, o + p, ha (by omega), by omega, fun hx => by have := hX g hx; omega, fun e => by have := hr g e; omega, ?_⟩
  rw [Nat.add_assoc, h (p + i) (by omega)]
  simp
/-- the shifts -/
def Sl (W : World) (N : Nat) (v : Value) (sh : List Sh) : Prop :=
  ∃ g o cap, v = .slice (some ⟨g, o, none⟩) sh.length cap ∧ sh.length ≤ cap ∧ g < N ∧ ∀ i (hi : i < sh.length), W.cell? ⟨g, o + i * 4, none⟩ = some (.int .i64 sh[i].line) ∧ W.cell? ⟨g, o + i * 4 + 1, none⟩ = some (.int .i64 sh[i].col) ∧ W.cell? ⟨g, o + i * 4 + 2, none⟩ = some (.int .i64 sh[i].aline) ∧ W.cell? ⟨g, o + i * 4 + 3, none⟩ = some (.int .i64 sh[i].acol)
theorem Sl.below {W W' : World} {N : Nat} {v : Value} {l : List Sh} (h : Sl W N v l) (hb : Below N W W') : Sl W' N v l := by
  obtain ⟨g, o, cap, h1, h2, h3, h4⟩ := h
  refine ⟨g, o, cap, h1, h2, h3, fun i hi => ?_⟩
  obtain ⟨a, b, c, d⟩ := h4 i hi
  have e := hb.block g h3
  exact ⟨(cell_of' e).trans a, (cell_of' e).trans b, (cell_of' e).trans c, (cell_of' e).trans d⟩
end Go.Proofs.Ytdhaifcjhmmdlaa.fnFinalize
