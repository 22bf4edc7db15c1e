/-
  A property access that a statement makes: it is a valid tree.
  Conditions: none.
-/
import Derived.Test.YtacokmkbikdmmaaGreatDoorTrees
namespace Go.Proofs.YtacokmkbikdmmaaGreatDoor.trees
open Go Go.RowKit
set_option linter.unusedVariables false
set_option linter.unusedSimpArgs false

theorem no_text : ByteArray.toList ⟨#[]⟩ = [] := by
  unfold ByteArray.toList ByteArray.toList.loop
  rfl
def lf (k : Int) : X := ⟨k, 0, 0, 0, 0, 0, none, 0, 0, ⟨#[]⟩, none, 0, 0, none, 0, 0, none, 0, 0, none, 0, 0, none, 0, 0⟩
def dt (fl : Int) (tx : ByteArray) (g : Nat) : X := ⟨16, 0, 0, 0, fl, 0, none, 0, 0, tx, some ⟨g, 0, none⟩, 1, 1, none, 0, 0, none, 0, 0, none, 0, 0, none, 0, 0⟩
theorem lf_C2 (k : Int) (hk : k = 7 ∨ k = 8) : C2.x (lf k) := by
  rcases hk with rfl | rfl
  · refine ⟨⟨⟨by decide, by decide, ⟨by decide, by decide⟩, ⟨by decide, by decide⟩, ⟨by decide, by decide⟩, ⟨by decide, by decide⟩⟩, by decide, by decide, by decide, by decide, by decide⟩, ⟨by decide, by decide, rfl, rfl, by decide, by decide, by decide, by decide, by decide, by decide, by decide, by decide, by decide, by decide, by decide, by decide⟩, ⟨.inr (.inr (.inr rfl)), .inr rfl, .inr (.inr (.inr rfl)), .inr (.inr rfl), .inr (.inr rfl), .inr (.inr (.inr (.inr (.inr (by show (ByteArray.toList ⟨#[]⟩).isEmpty = true; rw [no_text]; rfl))))), .inr rfl, .inr rfl, .inr (.inr (.inr rfl)), by decide, by decide⟩⟩
  · refine ⟨⟨⟨by decide, by decide, ⟨by decide, by decide⟩, ⟨by decide, by decide⟩, ⟨by decide, by decide⟩, ⟨by decide, by decide⟩⟩, by decide, by decide, by decide, by decide, by decide⟩, ⟨by decide, by decide, rfl, rfl, by decide, by decide, by decide, by decide, by decide, by decide, by decide, by decide, by decide, by decide, by decide, by decide⟩, ⟨.inr (.inr (.inr rfl)), .inr rfl, .inr (.inr (.inr rfl)), .inr (.inr rfl), .inr (.inr rfl), .inr (.inr (.inr (.inr (.inr (by show (ByteArray.toList ⟨#[]⟩).isEmpty = true; rw [no_text]; rfl))))), .inr rfl, .inr rfl, .inr (.inr (.inr rfl)), by decide, by decide⟩⟩
theorem dt_C2 (fl : Int) (tx : ByteArray) (g : Nat) (hf : fl = 0 ∨ fl = 4) (ht : tx.size ≤ 1000) : C2.x (dt fl tx g) := by
  have hfl : bits .andNot .i64 fl 7 = 0 := by rcases hf with rfl | rfl <;> decide
  refine ⟨⟨⟨?_, ?_, ⟨?_, ?_⟩, ⟨?_, ?_⟩, ⟨?_, ?_⟩, ⟨?_, ?_⟩⟩, ?_, ht, ?_, ?_, ?_⟩, ⟨?_, ?_, rfl, rfl, ?_, ?_, ?_, ?_, ?_, ?_, ?_, ?_, ?_, ?_, ?_, ?_⟩, ⟨.inr (.inr (.inr rfl)), .inr rfl, .inl rfl, .inr (.inr rfl), .inr (.inr rfl), .inr (.inr (.inl rfl)), .inr rfl, .inr rfl, .inl ?_, ?_, ?_⟩⟩
  all_goals first | exact hfl | (simp only [dt]; omega) | (simp [dt]; done)
theorem dot_ex (W : World) (g : Nat) (k fl : Int) (tx : ByteArray) (hk : k = 7 ∨ k = 8) (hf : fl = 0 ∨ fl = 4) (ht : tx.size ≤ 1000) (hg : W.heap[g]? = some (.cells #[.int .i64 k, .int .i64 0, .int .i64 0, .int .i64 0, .int .i64 0, .float .f64 0, .slice none 0 0, .string ⟨#[]⟩, .slice none 0 0, .slice none 0 0, .slice none 0 0, .slice none 0 0, .slice none 0 0] 30 (0, 0))) : Ex C2 W.heap.size W 2 (dt fl tx g).cells := by
  have hn : ∀ {sz : Nat} {R : List Value → Prop}, rows W W.heap.size sz none 0 0 R := fun {sz R} => rows.nil ⟨Nat.zero_le _, fun _ => rfl⟩
  refine Ex_x.2 ⟨dt_C2 fl tx g hf ht, hn, ?_, hn, hn⟩
  refine ⟨Nat.le_refl _, ⟨by show (1 : Nat) ≤ _; decide, fun e => by cases e⟩, fun _ => ⟨g, 0, rfl, (Array.getElem?_eq_some_iff.1 hg).1, fun i hi => ⟨(lf k).cells, rfl, Ex_x.2 ⟨lf_C2 k hk, hn, hn, hn, hn⟩, fun j u hu => ?_⟩⟩⟩
  have hi0 : i = 0 := by
    have hi1 : i < 1 := hi
    omega
  subst hi0
  rw [show 0 + 0 * 13 + j = j by omega]
  unfold World.cell?
  rw [hg]
  exact (show (List.toArray (lf k).cells)[j]? = some u by rw [List.getElem?_toArray]; exact hu)
end Go.Proofs.YtacokmkbikdmmaaGreatDoor.trees
