/-
  FnFinalize: bytes in memory.
  Conditions: none.
-/
import Derived.Test.YtdhaifcjhmmdlaaFnFinalizeVlq
import Derived.Below
import Derived.Test.YtdhaifcjhmmdlaaShelf
import Derived.Laws.AppendOwn
import Derived.Laws.OwnMore
namespace Go.Proofs.Ytdhaifcjhmmdlaa.fnFinalize
open Go.RowKit Go.Proofs.YtdhaifcjhmmdlaaW.PrintWords Go.Proofs.YtdhaifcjhmmdlaaW.PrintLast Go.Proofs.YtdhaifcjhmmdlaaW.PrintMore
set_option linter.unusedVariables false
set_option linter.unusedSimpArgs false

def bval (b : UInt8) : Value := .int .u8 (b.toNat : Int)
/-- bytes that lie in a block below N -/
def Bt (W : World) (N : Nat) (v : Value) (l : List UInt8) : Prop :=
  ∃ a cap, v = .slice a l.length cap ∧ l.length ≤ cap ∧ ∀ i (hi : i < l.length), ∃ g o, a = some ⟨g, o, none⟩ ∧ g < N ∧ W.cell? ⟨g, o + i, none⟩ = some (bval l[i])
theorem cell_of' {w w' : World} {g : Nat} (h : w'.heap[g]? = w.heap[g]?) {i : Nat} {p} : w'.cell? ⟨g, i, p⟩ = w.cell? ⟨g, i, p⟩ := by
  unfold World.cell?
  rw [h]
theorem Bt.keep {W W' : World} {N : Nat} {v : Value} {l : List UInt8} (h : Bt W N v l) (hk : ∀ g, g < N → W'.heap[g]? = W.heap[g]?) : Bt W' N v l := by
  obtain ⟨a, cap, h1, h2, h3⟩ := h
  refine ⟨a, cap, h1, h2, fun i hi => ?_⟩
  obtain ⟨g, o, e, hg, c1⟩ := h3 i hi
  exact ⟨g, o, e, hg, (cell_of' (hk g hg)).trans c1⟩
theorem Bt.mono {W : World} {N N' : Nat} {v : Value} {l : List UInt8} (h : Bt W N v l) (hn : N ≤ N') : Bt W N' v l := by
  obtain ⟨a, cap, h1, h2, h3⟩ := h
  exact ⟨a, cap, h1, h2, fun i hi => by obtain ⟨g, o, e, hg, c⟩ := h3 i hi; exact ⟨g, o, e, Nat.lt_of_lt_of_le hg hn, c⟩⟩
theorem Bt.below {W W' : World} {N : Nat} {v : Value} {l : List UInt8} (h : Bt W N v l) (hb : Below N W W') : Bt W' N v l := h.keep fun g hg => hb.block g hg
theorem Bt.of_own {W : World} {base e : Nat} {v : Value} {l : List UInt8} (h : W.ownsRow base e 1 v l.length (l.map bval)) : Bt W W.heap.size v l := by
  have h0 := h
  rcases h.2 with ⟨rfl, hn⟩ | ⟨g, cap, cur, rfl, hb, hg, hc, _⟩
  · exact ⟨none, 0, by rw [hn], by omega, fun i hi => by omega⟩
  · refine ⟨some ⟨g, 0, none⟩, cap, rfl, hc, fun i hi => ⟨g, 0, rfl, (Array.getElem?_eq_some_iff.1 hg).1, ?_⟩⟩
    rw [Nat.zero_add, h0.cellAt _ (by omega)]
    simp [hi]
theorem Bt.at {W : World} {N : Nat} {v : Value} {l : List UInt8} (h : Bt W N v l) (p : Nat) (hp : p < l.length) :
    ∃ g o cap, v = .slice (some ⟨g, o, none⟩) l.length cap ∧ l.length ≤ cap ∧ g < N ∧ W.cell? ⟨g, o + p, none⟩ = some (bval l[p]) := by
  obtain ⟨a, cap, h1, h2, h3⟩ := h
  obtain ⟨g, o, rfl, hg, c⟩ := h3 p hp
  exact ⟨g, o, cap, h1, h2, hg, c⟩
/-! ### numbers read -/
theorem sh_val : ∀ d : Fin 32, ∀ k : Fin 7, IntKind.i64.wrap ((d.1 : Int) * 2 ^ (5 * k.1)) = ((d.1 * 32 ^ k.1 : Nat) : Int) := by decide +kernel
theorem or_low (i : Nat) (hi : i < 63) (a b : Nat) (ha : a < 2 ^ i) (hb : b % 2 ^ i = 0) (hb2 : b < 2 ^ 63) : Go.bits .or .i64 (a : Int) (b : Int) = ((a + b : Nat) : Int) := by
  have hp : 2 ^ i ≤ 2 ^ 63 := Nat.pow_le_pow_right (by decide) (by omega)
  have h1 := (bits_nat .i64 63 (by decide) wraps_i64 a b (by omega) hb2).2
  have h2 := (bits_nat .i64 63 (by decide) wraps_i64 b a hb2 (by omega)).2
  have q1 : ((b : Int)) % 2 ^ i = 0 := by exact_mod_cast hb
  have q2 : (b : Int) < 2 ^ 63 := by exact_mod_cast hb2
  have q3 : (a : Int) < 2 ^ i := by exact_mod_cast ha
  have q4 : a < 2 ^ 63 := by omega
  have q5 : (a : Int) < 2 ^ 63 := by exact_mod_cast q4
  rw [h1, Nat.or_comm, ← h2, bits_join .i64 63 (by decide) wraps_i64 i b a (by omega) q1 q2 (by omega) q3 q5]
  omega
theorem ib_dig : ∀ d : Fin 64, Lib.indexByte DS.data.toList (((dig d.1).toNat : Int).toNat.toUInt8) = (d.1 : Int) := by decide +kernel
theorem ib_comma : Lib.indexByte DS.data.toList (((44 : UInt8).toNat : Int).toNat.toUInt8) = -1 := by decide +kernel
theorem ib_semi : Lib.indexByte DS.data.toList (((59 : UInt8).toNat : Int).toNat.toUInt8) = -1 := by decide +kernel
theorem and31_d : ∀ d : Fin 64, Go.bits .and .i64 (d.1 : Int) 31 = ((d.1 % 32 : Nat) : Int) := by decide +kernel
theorem and32_d : ∀ d : Fin 64, Go.bits .and .i64 (d.1 : Int) 32 = if d.1 < 32 then 0 else 32 := by decide +kernel
end Go.Proofs.Ytdhaifcjhmmdlaa.fnFinalize
