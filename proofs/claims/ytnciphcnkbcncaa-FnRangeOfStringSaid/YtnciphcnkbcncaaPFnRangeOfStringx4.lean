-- PRINTED BY print.sh 35421559b90ae4d0a3588c463048766b98c2df88dd9212a6774a882060cdf62d: not written by this session
import Derived.Test.YtnciphcnkbcncaaPFnRangeOfStringx0
import Derived.Test.YtnciphcnkbcncaaPFnRangeOfStringx3
namespace Go.Proofs.Ytnciphcnkbcncaa.PFnRangeOfString
open Go.RowKit Go.Proofs.YtnciphcnkbcncaaW.PrintWords Go.Proofs.YtnciphcnkbcncaaW.PrintLast Go.Proofs.YtnciphcnkbcncaaW.PrintMore
attribute [local go_sem] max2_int min2_int max_two min_two max_three min_three max_four min_four   -- for this text's walks alone
set_option linter.unusedVariables false
set_option linter.unusedSimpArgs false

/-- A state of type 51 at block g of W; what its slices lead to came in by w0. -/
def IsS51 (w0 W : World) (g : Nat) (f0 : ByteArray) (f1 : Int) (f2 : Bool) (f3 : Bool) (f4 : Int) : Prop := W.heap[g]? = some (.cells #[.string f0, .int .i64 f1, .bool f2, .bool f3, .int .i64 f4] 51 (0, 0)) ∧ w0.heap.size ≤ g
theorem IsS51.grown {w0 W : World} {g : Nat} {f0 : ByteArray} {f1 : Int} {f2 : Bool} {f3 : Bool} {f4 : Int} {W1 : World} {row : Option Nat} (h : IsS51 w0 W g f0 f1 f2 f3 f4) (hw : W.grownBy W1 row) (hne : some g ≠ row) : IsS51 w0 W1 g f0 f1 f2 f3 f4 := by
  obtain ⟨hb, hg⟩ := h
  exact ⟨blk_grown hb hw hne, hg⟩
theorem IsS51.own_neN {w0 W : World} {g : Nat} {f0 : ByteArray} {f1 : Int} {f2 : Bool} {f3 : Bool} {f4 : Int} {α : Type} {d : Kd α} {e : Nat} {base : Nat} {ok : Nat → Prop} {v : Value} {xs : List α} (h : IsS51 w0 W g f0 f1 f2 f3 f4) (ho : Kd.N d e W base ok v xs) (ht : e ≠ 51) : some g ≠ v.ownBlock := by
  obtain ⟨hb, hg⟩ := h
  exact Kd.N_ne ho hb ht
theorem IsS51.fresh {w0 W : World} {g : Nat} {f0 : ByteArray} {f1 : Int} {f2 : Bool} {f3 : Bool} {f4 : Int} (h : IsS51 w0 W g f0 f1 f2 f3 f4) : ∀ k, W.heap.size ≤ k → k ≠ g := by
  obtain ⟨hb, hg⟩ := h
  exact Kd.freshB hb
theorem IsS51.kept {w0 W : World} {g : Nat} {f0 : ByteArray} {f1 : Int} {f2 : Bool} {f3 : Bool} {f4 : Int} {W1 : World} {S : Nat → Prop} (h : IsS51 w0 W g f0 f1 f2 f3 f4) (hk : Kept W W1 S) (hne : ¬ S g) : IsS51 w0 W1 g f0 f1 f2 f3 f4 := by
  obtain ⟨hb, hg⟩ := h
  exact ⟨blk_kept hb hk hne, hg⟩
theorem IsS51.below {w0 W : World} {g : Nat} {f0 : ByteArray} {f1 : Int} {f2 : Bool} {f3 : Bool} {f4 : Int} {W1 : World} (h : IsS51 w0 W g f0 f1 f2 f3 f4) (hw : Below W.heap.size W W1) : IsS51 w0 W1 g f0 f1 f2 f3 f4 := h.grown (grown_of_below hw none) (by simp)
theorem IsS51.alloc {w0 W : World} {g : Nat} {f0 : ByteArray} {f1 : Int} {f2 : Bool} {f3 : Bool} {f4 : Int} (h : IsS51 w0 W g f0 f1 f2 f3 f4) (o : Obj) : IsS51 w0 (W.alloc o) g f0 f1 f2 f3 f4 := h.below (below_alloc (Below.refl _ _) o)
theorem IsS51.drewN {w0 W : World} {g : Nat} {f0 : ByteArray} {f1 : Int} {f2 : Bool} {f3 : Bool} {f4 : Int} (h : IsS51 w0 W g f0 f1 f2 f3 f4) (m : Nat) : IsS51 w0 (W.drewN m) g f0 f1 f2 f3 f4 := h
theorem IsS51.drew {w0 W : World} {g : Nat} {f0 : ByteArray} {f1 : Int} {f2 : Bool} {f3 : Bool} {f4 : Int} (h : IsS51 w0 W g f0 f1 f2 f3 f4) : IsS51 w0 W.drew g f0 f1 f2 f3 f4 := h
theorem IsS51.at_ {w0 W : World} {g : Nat} {f0 : ByteArray} {f1 : Int} {f2 : Bool} {f3 : Bool} {f4 : Int} {w' : World} {m : Nat} (hq : W.drewN m = w') (h : IsS51 w0 W g f0 f1 f2 f3 f4) : IsS51 w0 w' g f0 f1 f2 f3 f4 := by subst hq; exact IsS51.drewN h m
theorem IsS51.apart {w0 W : World} {g : Nat} {f0 : ByteArray} {f1 : Int} {f2 : Bool} {f3 : Bool} {f4 : Int} {α : Type} {d : Kd α} {e : Nat} {base : Nat} {ok : Nat → Prop} {v : Value} {xs : List α} (h : IsS51 w0 W g f0 f1 f2 f3 f4) (ho : d.R e W base ok v xs) (ht : ∀ q, q ∈ e :: d.E → q ≠ 51) : d.R e W base (fun k => ok k ∧ k ≠ g) v xs := by
  obtain ⟨hb, hg⟩ := h
  exact Kd.R_types ho hb ht
theorem IsS51.own_ne {w0 W : World} {g : Nat} {f0 : ByteArray} {f1 : Int} {f2 : Bool} {f3 : Bool} {f4 : Int} {α : Type} {d : Kd α} {e : Nat} {base : Nat} {ok : Nat → Prop} {v : Value} {xs : List α} (h : IsS51 w0 W g f0 f1 f2 f3 f4) (ho : d.R e W base ok v xs) (ht : e ≠ 51) : some g ≠ v.ownBlock := by
  obtain ⟨hb, hg⟩ := h
  exact Kd.R_ne ho hb ht
theorem IsS51.apartQ {w0 W : World} {g : Nat} {f0 : ByteArray} {f1 : Int} {f2 : Bool} {f3 : Bool} {f4 : Int} {α : Type} {d : Kd α} {e : Nat} {base : Nat} {ok : Nat → Prop} {v : Value} {xs : List α} (h : IsS51 w0 W g f0 f1 f2 f3 f4) (ho : d.Q e W base ok v xs) (ht : ∀ q, q ∈ e :: d.E → q ≠ 51) : d.Q e W base (fun k => ok k ∧ k ≠ g) v xs := by
  obtain ⟨hb, hg⟩ := h
  exact Kd.Q_types ho hb ht
theorem IsS51.own_neQ {w0 W : World} {g : Nat} {f0 : ByteArray} {f1 : Int} {f2 : Bool} {f3 : Bool} {f4 : Int} {α : Type} {d : Kd α} {e : Nat} {base : Nat} {ok : Nat → Prop} {v : Value} {xs : List α} (h : IsS51 w0 W g f0 f1 f2 f3 f4) (ho : d.Q e W base ok v xs) (ht : e ≠ 51) : some g ≠ v.ownBlock := by
  obtain ⟨hb, hg⟩ := h
  exact Kd.Q_ne ho hb ht
theorem IsS51.apartS {w0 W : World} {g : Nat} {f0 : ByteArray} {f1 : Int} {f2 : Bool} {f3 : Bool} {f4 : Int} {α : Type} {d : Kd α} {e : Nat} {base : Nat} {ok : Nat → Prop} {v : Value} {xs : List α} (h : IsS51 w0 W g f0 f1 f2 f3 f4) (ho : d.S e W base ok v xs) (ht : ∀ q, q ∈ e :: d.E → q ≠ 51) : d.S e W base (fun k => ok k ∧ k ≠ g) v xs := by
  obtain ⟨hb, hg⟩ := h
  exact Kd.S_types ho hb ht
theorem IsS51.own_neS {w0 W : World} {g : Nat} {f0 : ByteArray} {f1 : Int} {f2 : Bool} {f3 : Bool} {f4 : Int} {α : Type} {d : Kd α} {e : Nat} {base : Nat} {ok : Nat → Prop} {v : Value} {xs : List α} (h : IsS51 w0 W g f0 f1 f2 f3 f4) (ho : d.S e W base ok v xs) (ht : e ≠ 51) : some g ≠ v.ownBlock := by
  obtain ⟨hb, hg⟩ := h
  exact Kd.S_ne ho hb ht
theorem IsS51.lt {w0 W : World} {g : Nat} {f0 : ByteArray} {f1 : Int} {f2 : Bool} {f3 : Bool} {f4 : Int} (h : IsS51 w0 W g f0 f1 f2 f3 f4) : g < W.heap.size := by
  obtain ⟨hb, hg⟩ := h
  exact blk_lt hb
theorem IsS51.ge {w0 W : World} {g : Nat} {f0 : ByteArray} {f1 : Int} {f2 : Bool} {f3 : Bool} {f4 : Int} (h : IsS51 w0 W g f0 f1 f2 f3 f4) : w0.heap.size ≤ g := by
  obtain ⟨hb, hg⟩ := h
  exact hg
theorem IsS51.ne_blk {w0 W : World} {g : Nat} {f0 : ByteArray} {f1 : Int} {f2 : Bool} {f3 : Bool} {f4 : Int} {a : Nat} {cs : Array Value} {t : TypeId} {fr : Nat × Nat} (h : IsS51 w0 W g f0 f1 f2 f3 f4) (hb2 : W.heap[a]? = some (.cells cs t fr)) (ht : t ≠ 51) : g ≠ a := by
  obtain ⟨hb, hg⟩ := h
  rintro rfl
  rw [hb] at hb2
  injection hb2 with hb2
  injection hb2 with _ ht2
  exact ht ht2.symm
theorem IsS51.far {w0 W : World} {g : Nat} {f0 : ByteArray} {f1 : Int} {f2 : Bool} {f3 : Bool} {f4 : Int} {p : Addr} (h : IsS51 w0 W g f0 f1 f2 f3 f4) (hne : g ≠ p.block) (u : Value) : IsS51 w0 (W.setCell p u) g f0 f1 f2 f3 f4 := by
  obtain ⟨hb, hg⟩ := h
  exact ⟨blk_far hb hne u, hg⟩
theorem cellS51_0 {W : World} {g : Nat} {f0 : ByteArray} {f1 : Int} {f2 : Bool} {f3 : Bool} {f4 : Int} (h : W.heap[g]? = some (.cells #[.string f0, .int .i64 f1, .bool f2, .bool f3, .int .i64 f4] 51 (0, 0))) : W.cell? ⟨g, 0, none⟩ = some (.string f0) := (blk_cell h 0).trans rfl
theorem IsS51.set_0 {w0 W : World} {g : Nat} {f0 : ByteArray} {f1 : Int} {f2 : Bool} {f3 : Bool} {f4 : Int} (h : IsS51 w0 W g f0 f1 f2 f3 f4) (x : ByteArray) : IsS51 w0 (W.setCell ⟨g, 0, none⟩ (.string x)) g x f1 f2 f3 f4 := by
  obtain ⟨hb, hg⟩ := h
  exact ⟨by simpa using blk_set hb 0 (.string x), hg⟩
theorem cellS51_1 {W : World} {g : Nat} {f0 : ByteArray} {f1 : Int} {f2 : Bool} {f3 : Bool} {f4 : Int} (h : W.heap[g]? = some (.cells #[.string f0, .int .i64 f1, .bool f2, .bool f3, .int .i64 f4] 51 (0, 0))) : W.cell? ⟨g, 1, none⟩ = some (.int .i64 f1) := (blk_cell h 1).trans rfl
theorem IsS51.set_1 {w0 W : World} {g : Nat} {f0 : ByteArray} {f1 : Int} {f2 : Bool} {f3 : Bool} {f4 : Int} (h : IsS51 w0 W g f0 f1 f2 f3 f4) (x : Int) : IsS51 w0 (W.setCell ⟨g, 1, none⟩ (.int .i64 x)) g f0 x f2 f3 f4 := by
  obtain ⟨hb, hg⟩ := h
  exact ⟨by simpa using blk_set hb 1 (.int .i64 x), hg⟩
theorem cellS51_2 {W : World} {g : Nat} {f0 : ByteArray} {f1 : Int} {f2 : Bool} {f3 : Bool} {f4 : Int} (h : W.heap[g]? = some (.cells #[.string f0, .int .i64 f1, .bool f2, .bool f3, .int .i64 f4] 51 (0, 0))) : W.cell? ⟨g, 2, none⟩ = some (.bool f2) := (blk_cell h 2).trans rfl
theorem IsS51.set_2 {w0 W : World} {g : Nat} {f0 : ByteArray} {f1 : Int} {f2 : Bool} {f3 : Bool} {f4 : Int} (h : IsS51 w0 W g f0 f1 f2 f3 f4) (x : Bool) : IsS51 w0 (W.setCell ⟨g, 2, none⟩ (.bool x)) g f0 f1 x f3 f4 := by
  obtain ⟨hb, hg⟩ := h
  exact ⟨by simpa using blk_set hb 2 (.bool x), hg⟩
theorem cellS51_3 {W : World} {g : Nat} {f0 : ByteArray} {f1 : Int} {f2 : Bool} {f3 : Bool} {f4 : Int} (h : W.heap[g]? = some (.cells #[.string f0, .int .i64 f1, .bool f2, .bool f3, .int .i64 f4] 51 (0, 0))) : W.cell? ⟨g, 3, none⟩ = some (.bool f3) := (blk_cell h 3).trans rfl
theorem IsS51.set_3 {w0 W : World} {g : Nat} {f0 : ByteArray} {f1 : Int} {f2 : Bool} {f3 : Bool} {f4 : Int} (h : IsS51 w0 W g f0 f1 f2 f3 f4) (x : Bool) : IsS51 w0 (W.setCell ⟨g, 3, none⟩ (.bool x)) g f0 f1 f2 x f4 := by
  obtain ⟨hb, hg⟩ := h
  exact ⟨by simpa using blk_set hb 3 (.bool x), hg⟩
theorem cellS51_4 {W : World} {g : Nat} {f0 : ByteArray} {f1 : Int} {f2 : Bool} {f3 : Bool} {f4 : Int} (h : W.heap[g]? = some (.cells #[.string f0, .int .i64 f1, .bool f2, .bool f3, .int .i64 f4] 51 (0, 0))) : W.cell? ⟨g, 4, none⟩ = some (.int .i64 f4) := (blk_cell h 4).trans rfl
theorem IsS51.set_4 {w0 W : World} {g : Nat} {f0 : ByteArray} {f1 : Int} {f2 : Bool} {f3 : Bool} {f4 : Int} (h : IsS51 w0 W g f0 f1 f2 f3 f4) (x : Int) : IsS51 w0 (W.setCell ⟨g, 4, none⟩ (.int .i64 x)) g f0 f1 f2 f3 x := by
  obtain ⟨hb, hg⟩ := h
  exact ⟨by simpa using blk_set hb 4 (.int .i64 x), hg⟩
theorem IsS51.new (w0 W : World) (f0 : ByteArray) (f1 : Int) (f2 : Bool) (f3 : Bool) (f4 : Int) (hB : Below w0.heap.size w0 W) : IsS51 w0 (W.alloc (.cells #[.string f0, .int .i64 f1, .bool f2, .bool f3, .int .i64 f4] 51)) W.heap.size f0 f1 f2 f3 f4 := ⟨by simpa using heap_alloc_new W _, hB.size⟩

/-! ### spec_scan_is: function 13 -/
def spec_scan_is.f (s0_0 : ByteArray) (s0_1 : Int) (s0_2 : Bool) (s0_3 : Bool) (s0_4 : Int) (a1 : ByteArray) : Option (Bool × ByteArray × Int × Bool × Bool × Int) := if (a1.size : Int) ≤ (wrap64 ((s0_0.size : Int) - s0_1)) then (if 0 ≤ s0_1 then (if s0_1 ≤ (wrap64 (s0_1 + (a1.size : Int))) then (if (wrap64 (s0_1 + (a1.size : Int))) ≤ (s0_0.size : Int) then (some (((s0_0.extract (s0_1 : Int).toNat ((wrap64 (s0_1 + (a1.size : Int))) : Int).toNat).toList == a1.toList), s0_0, s0_1, s0_2, s0_3, s0_4)) else (none)) else (none)) else (none)) else (some (false, s0_0, s0_1, s0_2, s0_3, s0_4))
set_option maxHeartbeats 8000000 in
set_option maxRecDepth 100000 in
theorem spec_scan_is.calls (g : Nat) (s0_0 : ByteArray) (s0_1 : Int) (s0_2 : Bool) (s0_3 : Bool) (s0_4 : Int) (a1 : ByteArray) (r1 : Bool) (r2 : ByteArray) (r3 : Int) (r4 : Bool) (r5 : Bool) (r6 : Int) (w0 w : World) (hI : IsS51 w0 w g s0_0 s0_1 s0_2 s0_3 s0_4) (hB : Below w0.heap.size w0 w) (h : spec_scan_is.f s0_0 s0_1 s0_2 s0_3 s0_4 a1 = some (r1, r2, r3, r4, r5, r6)) :
    Calls Try.prog 13 #[.pointer (some ⟨g, 0, none⟩), .string a1] w fun e w' => e = .returned (.bool r1) ∧ IsS51 w0 w' g r2 r3 r4 r5 r6 ∧ Below w0.heap.size w0 w' ∧ KeepBut w w' g none := by
  have HI0 := Aside0.mk hI
  have HK := Aside0.mk (KeepBut.refl w g none)
  have HL := Aside0.mk hB.size
  clear hI
  have HW0 := Aside0.mk hB.size
  have HB := Aside0.mk hB
  clear hB
  have H : (if (a1.size : Int) ≤ (wrap64 ((s0_0.size : Int) - s0_1)) then (if 0 ≤ s0_1 then (if s0_1 ≤ (wrap64 (s0_1 + (a1.size : Int))) then (if (wrap64 (s0_1 + (a1.size : Int))) ≤ (s0_0.size : Int) then (some (((s0_0.extract (s0_1 : Int).toNat ((wrap64 (s0_1 + (a1.size : Int))) : Int).toNat).toList == a1.toList), s0_0, s0_1, s0_2, s0_3, s0_4)) else (none)) else (none)) else (none)) else (some (false, s0_0, s0_1, s0_2, s0_3, s0_4))) = some (r1, r2, r3, r4, r5, r6) := h
  clear h
  by_cases c3 : (a1.size : Int) ≤ (wrap64 ((s0_0.size : Int) - s0_1))
  · rw [if_pos c3] at H
    have c3b0 : decide ((a1.size : Int) ≤ (wrap64 ((s0_0.size : Int) - s0_1))) = true := decide_eq_true c3
    clear c3
    by_cases c4 : 0 ≤ s0_1
    · rw [if_pos c4] at H
      have c4b0 := eq_true c4
      have c4b1 : decide (0 ≤ s0_1) = true := decide_eq_true c4
      clear c4
      by_cases c5 : s0_1 ≤ (wrap64 (s0_1 + (a1.size : Int)))
      · rw [if_pos c5] at H
        have c5b0 := eq_true c5
        have c5b1 : decide (s0_1 ≤ (wrap64 (s0_1 + (a1.size : Int)))) = true := decide_eq_true c5
        by_cases c6 : (wrap64 (s0_1 + (a1.size : Int))) ≤ (s0_0.size : Int)
        · rw [if_pos c6] at H
          have c6b0 := eq_true c6
          have c6b1 : decide ((wrap64 (s0_1 + (a1.size : Int))) ≤ (s0_0.size : Int)) = true := decide_eq_true c6
          simp only [Option.some.injEq, Prod.mk.injEq] at H
          obtain ⟨rfl, rfl, rfl, rfl, rfl, rfl⟩ := H
          obtain ⟨HGz7, hgz7⟩ := HI0.out
          have hcz7_0 := cellS51_0 HGz7
          have hcz7_1 := cellS51_1 HGz7
          have hcz7_2 := cellS51_2 HGz7
          have hcz7_3 := cellS51_3 HGz7
          have hcz7_4 := cellS51_4 HGz7
          have hfz7_0 := blk_frozen HGz7 0
          have hfz7_1 := blk_frozen HGz7 1
          have hfz7_2 := blk_frozen HGz7 2
          have hfz7_3 := blk_frozen HGz7 3
          have hfz7_4 := blk_frozen HGz7 4
          clear HGz7 hgz7
          go_enter Try.func13, Try.ntmps13
          go_wp2
          repeat (go_quiet (fail); try go_wp2)
          go_ret
          exact ⟨by first | rfl | (simp [errW_none, errW_some] <;> rfl) | (simp [*, errW_none, errW_some] <;> rfl), by repeat (first | (with_reducible first | exact HI0.out | apply IsS51.alloc | apply IsS51.drewN | apply IsS51.drew | apply IsS51.set_0 | apply IsS51.set_1 | apply IsS51.set_2 | apply IsS51.set_3 | apply IsS51.set_4) | exact HI0.out), by repeat (first | (with_reducible first | exact HB.out | apply below_alloc | apply pw_below_drewN | apply below_drew1 | refine below_set ?_ (IsS51.ge HI0.out)) | exact HB.out), by repeat (first | (with_reducible first | exact HK.out | apply KeepBut.set_ | apply keep_drewN | apply keep_drew | apply keep_alloc) | exact HK.out)⟩
        · rw [if_neg c6] at H
          exact absurd H (by simp)
      · rw [if_neg c5] at H
        exact absurd H (by simp)
    · rw [if_neg c4] at H
      exact absurd H (by simp)
  · rw [if_neg c3] at H
    have c3b0 : decide ((a1.size : Int) ≤ (wrap64 ((s0_0.size : Int) - s0_1))) = false := decide_eq_false c3
    clear c3
    simp only [Option.some.injEq, Prod.mk.injEq] at H
    obtain ⟨rfl, rfl, rfl, rfl, rfl, rfl⟩ := H
    obtain ⟨HGz8, hgz8⟩ := HI0.out
    have hcz8_0 := cellS51_0 HGz8
    have hcz8_1 := cellS51_1 HGz8
    have hcz8_2 := cellS51_2 HGz8
    have hcz8_3 := cellS51_3 HGz8
    have hcz8_4 := cellS51_4 HGz8
    have hfz8_0 := blk_frozen HGz8 0
    have hfz8_1 := blk_frozen HGz8 1
    have hfz8_2 := blk_frozen HGz8 2
    have hfz8_3 := blk_frozen HGz8 3
    have hfz8_4 := blk_frozen HGz8 4
    clear HGz8 hgz8
    go_enter Try.func13, Try.ntmps13
    go_wp2
    repeat (go_quiet (fail); try go_wp2)
    go_ret
    exact ⟨by first | rfl | (simp [errW_none, errW_some] <;> rfl) | (simp [*, errW_none, errW_some] <;> rfl), by repeat (first | (with_reducible first | exact HI0.out | apply IsS51.alloc | apply IsS51.drewN | apply IsS51.drew | apply IsS51.set_0 | apply IsS51.set_1 | apply IsS51.set_2 | apply IsS51.set_3 | apply IsS51.set_4) | exact HI0.out), by repeat (first | (with_reducible first | exact HB.out | apply below_alloc | apply pw_below_drewN | apply below_drew1 | refine below_set ?_ (IsS51.ge HI0.out)) | exact HB.out), by repeat (first | (with_reducible first | exact HK.out | apply KeepBut.set_ | apply keep_drewN | apply keep_drew | apply keep_alloc) | exact HK.out)⟩

/-! ### spec_scan_rune: function 15 -/
def spec_scan_rune.f (k : Nat) (s0_0 : ByteArray) (s0_1 : Int) (s0_2 : Bool) (s0_3 : Bool) (s0_4 : Int) : Option (Int × Int × ByteArray × Int × Bool × Bool × Int) := (spec_Rune.f k s0_0 s0_1).bind fun bt120 => (some (bt120.1, bt120.2, s0_0, s0_1, s0_2, s0_3, s0_4))
theorem spec_scan_rune.mono : ∀ a0 a1 a2 a3 a4 k, LeO (spec_scan_rune.f k a0 a1 a2 a3 a4) (spec_scan_rune.f (k + 1) a0 a1 a2 a3 a4) := by
  intro a0 a1 a2 a3 a4 k
  unfold spec_scan_rune.f
  repeat' first
      | (with_reducible exact spec_Rune.mono _ _ _)
      | (with_reducible exact LeO.refl _)
      | (with_reducible exact LeO.none _)
      | (with_reducible refine LeO.ite ?_ ?_)
      | (with_reducible refine LeO.bind ?_ (fun _ => ?_))
      | exact spec_Rune.mono _ _ _
      | exact LeO.none _
      | refine LeO.ite ?_ ?_
      | refine LeO.bind ?_ (fun _ => ?_)
set_option maxHeartbeats 8000000 in
set_option maxRecDepth 100000 in
theorem spec_scan_rune.calls (k : Nat) (g : Nat) (s0_0 : ByteArray) (s0_1 : Int) (s0_2 : Bool) (s0_3 : Bool) (s0_4 : Int) (r1 : Int) (r2 : Int) (r3 : ByteArray) (r4 : Int) (r5 : Bool) (r6 : Bool) (r7 : Int) (w0 w : World) (hI : IsS51 w0 w g s0_0 s0_1 s0_2 s0_3 s0_4) (hB : Below w0.heap.size w0 w) (h : spec_scan_rune.f k s0_0 s0_1 s0_2 s0_3 s0_4 = some (r1, r2, r3, r4, r5, r6, r7)) :
    Calls Try.prog 15 #[.pointer (some ⟨g, 0, none⟩)] w fun e w' => e = .returned (.tuple #[.int .i64 r1, .int .i64 r2]) ∧ IsS51 w0 w' g r3 r4 r5 r6 r7 ∧ Below w0.heap.size w0 w' ∧ KeepBut w w' g none := by
  have HI0 := Aside0.mk hI
  have HK := Aside0.mk (KeepBut.refl w g none)
  have HL := Aside0.mk hB.size
  clear hI
  have HW0 := Aside0.mk hB.size
  have HB := Aside0.mk hB
  clear hB
  have H : ((spec_Rune.f k s0_0 s0_1).bind fun bt120 => (some (bt120.1, bt120.2, s0_0, s0_1, s0_2, s0_3, s0_4))) = some (r1, r2, r3, r4, r5, r6, r7) := h
  clear h
  replace H := Option.bind_eq_some_iff.mp H
  obtain ⟨⟨t120, t121⟩, A20, H⟩ := H
  replace H : (some (t120, t121, s0_0, s0_1, s0_2, s0_3, s0_4)) = some (r1, r2, r3, r4, r5, r6, r7) := H
  have A2 := Aside0.mk A20
  clear A20
  simp only [Option.some.injEq, Prod.mk.injEq] at H
  obtain ⟨rfl, rfl, rfl, rfl, rfl, rfl, rfl⟩ := H
  obtain ⟨HGz3, hgz3⟩ := HI0.out
  have hcz3_0 := cellS51_0 HGz3
  have hcz3_1 := cellS51_1 HGz3
  have hcz3_2 := cellS51_2 HGz3
  have hcz3_3 := cellS51_3 HGz3
  have hcz3_4 := cellS51_4 HGz3
  have hfz3_0 := blk_frozen HGz3 0
  have hfz3_1 := blk_frozen HGz3 1
  have hfz3_2 := blk_frozen HGz3 2
  have hfz3_3 := blk_frozen HGz3 3
  have hfz3_4 := blk_frozen HGz3 4
  clear HGz3 hgz3
  go_enter Try.func15, Try.ntmps15
  go_wp2_with (first | (go_at_call 9; (with_reducible refine (spec_Rune.calls k s0_0 s0_1 t120 t121 _ A2.out).mono ?_); rintro e w' ⟨rfl, ⟨nd, rfl⟩⟩; (try first | exact ⟨rfl, _, World.drewN_drewN _ _ _⟩ | exact ⟨rfl, _, Eq.trans (World.drewN_drewN _ _ _) (congrArg (World.drewN _) (Nat.add_assoc _ _ _))⟩)))
  repeat (go_quiet (first | (go_at_call 9; (with_reducible refine (spec_Rune.calls k s0_0 s0_1 t120 t121 _ A2.out).mono ?_); rintro e w' ⟨rfl, ⟨nd, rfl⟩⟩; (try first | exact ⟨rfl, _, World.drewN_drewN _ _ _⟩ | exact ⟨rfl, _, Eq.trans (World.drewN_drewN _ _ _) (congrArg (World.drewN _) (Nat.add_assoc _ _ _))⟩))); try go_wp2_with (first | (go_at_call 9; (with_reducible refine (spec_Rune.calls k s0_0 s0_1 t120 t121 _ A2.out).mono ?_); rintro e w' ⟨rfl, ⟨nd, rfl⟩⟩; (try first | exact ⟨rfl, _, World.drewN_drewN _ _ _⟩ | exact ⟨rfl, _, Eq.trans (World.drewN_drewN _ _ _) (congrArg (World.drewN _) (Nat.add_assoc _ _ _))⟩))))
  go_ret2
  exact ⟨by first | rfl | (simp [errW_none, errW_some] <;> rfl) | (simp [*, errW_none, errW_some] <;> rfl), by repeat (first | (with_reducible first | exact HI0.out | apply IsS51.alloc | apply IsS51.drewN | apply IsS51.drew | apply IsS51.set_0 | apply IsS51.set_1 | apply IsS51.set_2 | apply IsS51.set_3 | apply IsS51.set_4) | exact HI0.out), by repeat (first | (with_reducible first | exact HB.out | apply below_alloc | apply pw_below_drewN | apply below_drew1 | refine below_set ?_ (IsS51.ge HI0.out)) | exact HB.out), by repeat (first | (with_reducible first | exact HK.out | apply KeepBut.set_ | apply keep_drewN | apply keep_drew | apply keep_alloc) | exact HK.out)⟩

/-! ### spec_LineEnd: function 17 -/
def spec_LineEnd.f (a0 : Int) : Option (Bool) := if a0 = 10 then (some true) else (if a0 = 13 then (some true) else (if a0 = 8232 then (some true) else (some (a0 == 8233))))
set_option maxHeartbeats 8000000 in
set_option maxRecDepth 100000 in
theorem spec_LineEnd.calls (a0 : Int) (r : Bool) (w : World) (h : spec_LineEnd.f a0 = some r) :
    Calls Try.prog 17 #[.int .i64 a0] w fun e w' => e = .returned (.bool r) ∧ Drawn0 w w' := by
  have H : (if a0 = 10 then (some true) else (if a0 = 13 then (some true) else (if a0 = 8232 then (some true) else (some (a0 == 8233))))) = some r := h
  clear h
  by_cases c2 : a0 = 10
  · rw [if_pos c2] at H
    have c2b0 : (a0 == 10) = true := beq_iff_eq.mpr c2
    have c2b1 : (a0 != 10) = false := bne_eq_false_iff_eq.mpr c2
    clear c2
    obtain rfl := Option.some.inj H
    go_enter Try.func17, Try.ntmps17
    go_wp2
    go_ret
    exact ⟨by first | rfl | (simp; done) | (simp [*]; done), by repeat (first | exact Drawn0.refl _ | apply Drawn0.step)⟩
  · rw [if_neg c2] at H
    have c2b0 : (a0 == 10) = false := beq_eq_false_iff_ne.mpr c2
    have c2b1 : (a0 != 10) = true := bne_iff_ne.mpr c2
    by_cases c3 : a0 = 13
    · rw [if_pos c3] at H
      have c3b0 : (a0 == 13) = true := beq_iff_eq.mpr c3
      have c3b1 : (a0 != 13) = false := bne_eq_false_iff_eq.mpr c3
      clear c3
      obtain rfl := Option.some.inj H
      go_enter Try.func17, Try.ntmps17
      go_wp2
      go_ret
      exact ⟨by first | rfl | (simp; done) | (simp [*]; done), by repeat (first | exact Drawn0.refl _ | apply Drawn0.step)⟩
    · rw [if_neg c3] at H
      have c3b0 : (a0 == 13) = false := beq_eq_false_iff_ne.mpr c3
      have c3b1 : (a0 != 13) = true := bne_iff_ne.mpr c3
      by_cases c4 : a0 = 8232
      · rw [if_pos c4] at H
        have c4b0 : (a0 == 8232) = true := beq_iff_eq.mpr c4
        have c4b1 : (a0 != 8232) = false := bne_eq_false_iff_eq.mpr c4
        clear c4
        obtain rfl := Option.some.inj H
        go_enter Try.func17, Try.ntmps17
        go_wp2
        go_ret
        exact ⟨by first | rfl | (simp; done) | (simp [*]; done), by repeat (first | exact Drawn0.refl _ | apply Drawn0.step)⟩
      · rw [if_neg c4] at H
        have c4b0 : (a0 == 8232) = false := beq_eq_false_iff_ne.mpr c4
        have c4b1 : (a0 != 8232) = true := bne_iff_ne.mpr c4
        obtain rfl := Option.some.inj H
        go_enter Try.func17, Try.ntmps17
        go_wp2
        go_ret
        exact ⟨by first | rfl | (simp; done) | (simp [*]; done), by repeat (first | exact Drawn0.refl _ | apply Drawn0.step)⟩

/-! ### spec_scan_rest: function 14 -/
def spec_scan_rest.l0 : Nat → ByteArray → Int → Bool → Bool → Int → Option (ByteArray × Int × Bool × Bool × Int)
  | 0, _, _, _, _, _ => none
  | k + 1, x1000, x1001, x1002, x1003, x1004 => if x1001 < (x1000.size : Int) then ((spec_scan_rune.f k x1000 x1001 x1002 x1003 x1004).bind fun bt122 => ((spec_LineEnd.f bt122.1).bind fun t129 => (if t129 = true then (some (bt122.2.2.1, bt122.2.2.2.1, bt122.2.2.2.2.1, bt122.2.2.2.2.2.1, bt122.2.2.2.2.2.2)) else (if bt122.2.1 = 0 then (some (bt122.2.2.1, bt122.2.2.2.1, bt122.2.2.2.2.1, bt122.2.2.2.2.2.1, bt122.2.2.2.2.2.2)) else (spec_scan_rest.l0 k bt122.2.2.1 (wrap64 (bt122.2.2.2.1 + bt122.2.1)) bt122.2.2.2.2.1 bt122.2.2.2.2.2.1 bt122.2.2.2.2.2.2))))) else (some (x1000, x1001, x1002, x1003, x1004))
def spec_scan_rest.f (k : Nat) (s0_0 : ByteArray) (s0_1 : Int) (s0_2 : Bool) (s0_3 : Bool) (s0_4 : Int) : Option (ByteArray × Int × Bool × Bool × Int) := spec_scan_rest.l0 k s0_0 s0_1 s0_2 s0_3 s0_4
theorem spec_scan_rest.mono_l : ∀ k, (∀ y0 y1 y2 y3 y4, LeO (spec_scan_rest.l0 k y0 y1 y2 y3 y4) (spec_scan_rest.l0 (k + 1) y0 y1 y2 y3 y4))
  | 0 => fun _ _ _ _ _ r h => by simp [spec_scan_rest.l0] at h
  | k + 1 => by
    have ih0 := spec_scan_rest.mono_l k
    · intro y0 y1 y2 y3 y4
      unfold spec_scan_rest.l0
      repeat' first
      | (with_reducible exact ih0 _ _ _ _ _)
      | (with_reducible exact spec_scan_rune.mono _ _ _ _ _ _)
      | (with_reducible exact LeO.refl _)
      | (with_reducible exact LeO.none _)
      | (with_reducible refine LeO.ite ?_ ?_)
      | (with_reducible refine LeO.bind ?_ (fun _ => ?_))
      | exact ih0 _ _ _ _ _
      | exact spec_scan_rune.mono _ _ _ _ _ _
      | exact LeO.none _
      | refine LeO.ite ?_ ?_
      | refine LeO.bind ?_ (fun _ => ?_)
theorem spec_scan_rest.mono : ∀ a0 a1 a2 a3 a4 k, LeO (spec_scan_rest.f k a0 a1 a2 a3 a4) (spec_scan_rest.f (k + 1) a0 a1 a2 a3 a4) := by
  intro a0 a1 a2 a3 a4 k
  have ih0 := spec_scan_rest.mono_l k
  unfold spec_scan_rest.f
  repeat' first
      | (with_reducible exact ih0 _ _ _ _ _)
      | (with_reducible exact spec_scan_rune.mono _ _ _ _ _ _)
      | (with_reducible exact LeO.refl _)
      | (with_reducible exact LeO.none _)
      | (with_reducible refine LeO.ite ?_ ?_)
      | (with_reducible refine LeO.bind ?_ (fun _ => ?_))
      | exact ih0 _ _ _ _ _
      | exact spec_scan_rune.mono _ _ _ _ _ _
      | exact LeO.none _
      | refine LeO.ite ?_ ?_
      | refine LeO.bind ?_ (fun _ => ?_)
set_option maxHeartbeats 8000000 in
set_option maxRecDepth 100000 in
theorem spec_scan_rest.calls (k : Nat) (g : Nat) (s0_0 : ByteArray) (s0_1 : Int) (s0_2 : Bool) (s0_3 : Bool) (s0_4 : Int) (r1 : ByteArray) (r2 : Int) (r3 : Bool) (r4 : Bool) (r5 : Int) (w0 w : World) (hI : IsS51 w0 w g s0_0 s0_1 s0_2 s0_3 s0_4) (hB : Below w0.heap.size w0 w) (h : spec_scan_rest.f k s0_0 s0_1 s0_2 s0_3 s0_4 = some (r1, r2, r3, r4, r5)) :
    Calls Try.prog 14 #[.pointer (some ⟨g, 0, none⟩)] w fun e w' => e = .returned (.tuple #[]) ∧ IsS51 w0 w' g r1 r2 r3 r4 r5 ∧ Below w0.heap.size w0 w' ∧ KeepBut w w' g none := by
  have HI0 := Aside0.mk hI
  have HK := Aside0.mk (KeepBut.refl w g none)
  have HL := Aside0.mk hB.size
  clear hI
  have HW0 := Aside0.mk hB.size
  have HB := Aside0.mk hB
  clear hB
  have H : (spec_scan_rest.l0 k s0_0 s0_1 s0_2 s0_3 s0_4) = some (r1, r2, r3, r4, r5) := h
  clear h
  have H' := Aside0.mk H
  clear H
  go_enter Try.func14, Try.ntmps14
  go_wp2
  repeat (go_quiet (fail); try go_wp2)
  go_loopg [] k (fun kq w' => ∃ (x1000_1 : ByteArray) (x1001_1 : Int) (x1002_1 : Bool) (x1003_1 : Bool) (x1004_1 : Int), Aside0 (spec_scan_rest.l0 kq x1000_1 x1001_1 x1002_1 x1003_1 x1004_1 = some (r1, r2, r3, r4, r5)) ∧ Aside0 (kq ≤ k) ∧ Aside0 (IsS51 w0 w' g x1000_1 x1001_1 x1002_1 x1003_1 x1004_1) ∧ Aside0 (KeepBut w w' g none) ∧ Aside0 (Below w0.heap.size w0 w'))
  case atStart => exact ⟨(s0_0), (s0_1), (s0_2), (s0_3), (s0_4), H', ⟨Nat.le_refl _⟩, ⟨by repeat (first | (with_reducible first | exact HI0.out | apply IsS51.alloc | apply IsS51.drewN | apply IsS51.drew | apply IsS51.set_0 | apply IsS51.set_1 | apply IsS51.set_2 | apply IsS51.set_3 | apply IsS51.set_4) | exact HI0.out)⟩, ⟨by repeat (first | (with_reducible first | exact HK.out | apply KeepBut.set_ | apply keep_drewN | apply keep_drew | apply keep_alloc) | exact HK.out)⟩, ⟨by repeat (first | (with_reducible first | exact HB.out | apply below_alloc | apply pw_below_drewN | apply below_drew1 | refine below_set ?_ (IsS51.ge HI0.out)) | exact HB.out)⟩⟩
  case round =>
    clear H'
    try clear c1
    obtain ⟨x1000_1, x1001_1, x1002_1, x1003_1, x1004_1, HA, HK1, HI0, HK, HB⟩ := hrel
    cases gk with
    | zero => exact absurd HA.out (by simp [spec_scan_rest.l0])
    | succ k1 =>
      have H := HA.out
      clear HA
      simp only [spec_scan_rest.l0] at H
      by_cases c2 : x1001_1 < (x1000_1.size : Int)
      · rw [if_pos c2] at H
        have c2b0 : decide (x1001_1 < (x1000_1.size : Int)) = true := decide_eq_true c2
        clear c2
        replace H := Option.bind_eq_some_iff.mp H
        obtain ⟨⟨t122, t123, t124, t125, t126, t127, t128⟩, A30, H⟩ := H
        replace H : ((spec_LineEnd.f t122).bind fun t129 => (if t129 = true then (some (t124, t125, t126, t127, t128)) else (if t123 = 0 then (some (t124, t125, t126, t127, t128)) else (spec_scan_rest.l0 k1 t124 (wrap64 (t125 + t123)) t126 t127 t128)))) = some (r1, r2, r3, r4, r5) := H
        have A3 := Aside0.mk A30
        clear A30
        replace H := Option.bind_eq_some_iff.mp H
        obtain ⟨t129, A40, H⟩ := H
        replace H : (if t129 = true then (some (t124, t125, t126, t127, t128)) else (if t123 = 0 then (some (t124, t125, t126, t127, t128)) else (spec_scan_rest.l0 k1 t124 (wrap64 (t125 + t123)) t126 t127 t128))) = some (r1, r2, r3, r4, r5) := H
        have A4 := Aside0.mk A40
        clear A40
        by_cases c5 : t129 = true
        · subst c5
          have H1 : (some (t124, t125, t126, t127, t128)) = some (r1, r2, r3, r4, r5) := by rw [if_pos rfl] at H; exact H
          clear H
          have H := H1
          clear H1
          simp only [Option.some.injEq, Prod.mk.injEq] at H
          obtain ⟨rfl, rfl, rfl, rfl, rfl⟩ := H
          obtain ⟨HGz6, hgz6⟩ := HI0.out
          have hcz6_0 := cellS51_0 HGz6
          have hcz6_1 := cellS51_1 HGz6
          have hcz6_2 := cellS51_2 HGz6
          have hcz6_3 := cellS51_3 HGz6
          have hcz6_4 := cellS51_4 HGz6
          have hfz6_0 := blk_frozen HGz6 0
          have hfz6_1 := blk_frozen HGz6 1
          have hfz6_2 := blk_frozen HGz6 2
          have hfz6_3 := blk_frozen HGz6 3
          have hfz6_4 := blk_frozen HGz6 4
          clear HGz6 hgz6
          go_wp2_with (first | (go_at_call 15; (with_reducible refine (spec_scan_rune.calls k1 g x1000_1 x1001_1 x1002_1 x1003_1 x1004_1 t122 t123 t124 t125 t126 t127 t128 w0 _ ?side1 ?side2 A3.out).mono ?_); (case side1 => repeat (first | (with_reducible first | exact HI0.out | apply IsS51.alloc | apply IsS51.drewN | apply IsS51.drew | apply IsS51.set_0 | apply IsS51.set_1 | apply IsS51.set_2 | apply IsS51.set_3 | apply IsS51.set_4) | exact HI0.out)); (case side2 => repeat (first | (with_reducible first | exact HB.out | apply below_alloc | apply pw_below_drewN | apply below_drew1 | refine below_set ?_ (IsS51.ge HI0.out)) | exact HB.out)); rintro e w7 ⟨rfl, hi, hb, hk⟩; have n0_ := Aside0.mk (KeepBut.trans (by repeat (first | (with_reducible first | exact HK.out | apply KeepBut.set_ | apply keep_drewN | apply keep_drew | apply keep_alloc) | exact HK.out)) hk (.inl rfl)); have n1_ := Aside0.mk (hb); have n2_ := Aside0.mk (hi); clear HK; clear HB; clear HI0; have HK := n0_; have HB := n1_; have HI0 := n2_; clear n0_ n1_ n2_; (try clear hb); (try clear hb2); (try clear hk); (try clear hi)) | (go_at_call 17; (with_reducible refine (spec_LineEnd.calls t122 true _ A4.out).mono ?_); rintro e w' ⟨rfl, ⟨nd, rfl⟩⟩; (try first | exact ⟨rfl, _, World.drewN_drewN _ _ _⟩ | exact ⟨rfl, _, Eq.trans (World.drewN_drewN _ _ _) (congrArg (World.drewN _) (Nat.add_assoc _ _ _))⟩)))
          repeat (go_quiet (first | (go_at_call 15; (with_reducible refine (spec_scan_rune.calls k1 g x1000_1 x1001_1 x1002_1 x1003_1 x1004_1 t122 t123 t124 t125 t126 t127 t128 w0 _ ?side1 ?side2 A3.out).mono ?_); (case side1 => repeat (first | (with_reducible first | exact HI0.out | apply IsS51.alloc | apply IsS51.drewN | apply IsS51.drew | apply IsS51.set_0 | apply IsS51.set_1 | apply IsS51.set_2 | apply IsS51.set_3 | apply IsS51.set_4) | exact HI0.out)); (case side2 => repeat (first | (with_reducible first | exact HB.out | apply below_alloc | apply pw_below_drewN | apply below_drew1 | refine below_set ?_ (IsS51.ge HI0.out)) | exact HB.out)); rintro e w7 ⟨rfl, hi, hb, hk⟩; have n0_ := Aside0.mk (KeepBut.trans (by repeat (first | (with_reducible first | exact HK.out | apply KeepBut.set_ | apply keep_drewN | apply keep_drew | apply keep_alloc) | exact HK.out)) hk (.inl rfl)); have n1_ := Aside0.mk (hb); have n2_ := Aside0.mk (hi); clear HK; clear HB; clear HI0; have HK := n0_; have HB := n1_; have HI0 := n2_; clear n0_ n1_ n2_; (try clear hb); (try clear hb2); (try clear hk); (try clear hi)) | (go_at_call 17; (with_reducible refine (spec_LineEnd.calls t122 true _ A4.out).mono ?_); rintro e w' ⟨rfl, ⟨nd, rfl⟩⟩; (try first | exact ⟨rfl, _, World.drewN_drewN _ _ _⟩ | exact ⟨rfl, _, Eq.trans (World.drewN_drewN _ _ _) (congrArg (World.drewN _) (Nat.add_assoc _ _ _))⟩))); try go_wp2_with (first | (go_at_call 15; (with_reducible refine (spec_scan_rune.calls k1 g x1000_1 x1001_1 x1002_1 x1003_1 x1004_1 t122 t123 t124 t125 t126 t127 t128 w0 _ ?side1 ?side2 A3.out).mono ?_); (case side1 => repeat (first | (with_reducible first | exact HI0.out | apply IsS51.alloc | apply IsS51.drewN | apply IsS51.drew | apply IsS51.set_0 | apply IsS51.set_1 | apply IsS51.set_2 | apply IsS51.set_3 | apply IsS51.set_4) | exact HI0.out)); (case side2 => repeat (first | (with_reducible first | exact HB.out | apply below_alloc | apply pw_below_drewN | apply below_drew1 | refine below_set ?_ (IsS51.ge HI0.out)) | exact HB.out)); rintro e w7 ⟨rfl, hi, hb, hk⟩; have n0_ := Aside0.mk (KeepBut.trans (by repeat (first | (with_reducible first | exact HK.out | apply KeepBut.set_ | apply keep_drewN | apply keep_drew | apply keep_alloc) | exact HK.out)) hk (.inl rfl)); have n1_ := Aside0.mk (hb); have n2_ := Aside0.mk (hi); clear HK; clear HB; clear HI0; have HK := n0_; have HB := n1_; have HI0 := n2_; clear n0_ n1_ n2_; (try clear hb); (try clear hb2); (try clear hk); (try clear hi)) | (go_at_call 17; (with_reducible refine (spec_LineEnd.calls t122 true _ A4.out).mono ?_); rintro e w' ⟨rfl, ⟨nd, rfl⟩⟩; (try first | exact ⟨rfl, _, World.drewN_drewN _ _ _⟩ | exact ⟨rfl, _, Eq.trans (World.drewN_drewN _ _ _) (congrArg (World.drewN _) (Nat.add_assoc _ _ _))⟩))))
          first | go_end0 | ((try simp only [Exit.inBlock, Exit.then]); refine bodyPost_ret (results_none rfl _ _ _) rfl ?_)
          exact ⟨by first | rfl | (simp [errW_none, errW_some] <;> rfl) | (simp [*, errW_none, errW_some] <;> rfl), by repeat (first | (with_reducible first | exact HI0.out | apply IsS51.alloc | apply IsS51.drewN | apply IsS51.drew | apply IsS51.set_0 | apply IsS51.set_1 | apply IsS51.set_2 | apply IsS51.set_3 | apply IsS51.set_4) | exact HI0.out), by repeat (first | (with_reducible first | exact HB.out | apply below_alloc | apply pw_below_drewN | apply below_drew1 | refine below_set ?_ (IsS51.ge HI0.out)) | exact HB.out), by repeat (first | (with_reducible first | exact HK.out | apply KeepBut.set_ | apply keep_drewN | apply keep_drew | apply keep_alloc) | exact HK.out)⟩
        · replace c5 := Bool.eq_false_iff.mpr c5
          subst c5
          have H1 : (if t123 = 0 then (some (t124, t125, t126, t127, t128)) else (spec_scan_rest.l0 k1 t124 (wrap64 (t125 + t123)) t126 t127 t128)) = some (r1, r2, r3, r4, r5) := by rw [if_neg (show ¬ (false = true) by decide)] at H; exact H
          clear H
          have H := H1
          clear H1
          by_cases c8 : t123 = 0
          · rw [if_pos c8] at H
            have c8b0 : (t123 == 0) = true := beq_iff_eq.mpr c8
            have c8b1 : (t123 != 0) = false := bne_eq_false_iff_eq.mpr c8
            clear c8
            simp only [Option.some.injEq, Prod.mk.injEq] at H
            obtain ⟨rfl, rfl, rfl, rfl, rfl⟩ := H
            obtain ⟨HGz9, hgz9⟩ := HI0.out
            have hcz9_0 := cellS51_0 HGz9
            have hcz9_1 := cellS51_1 HGz9
            have hcz9_2 := cellS51_2 HGz9
            have hcz9_3 := cellS51_3 HGz9
            have hcz9_4 := cellS51_4 HGz9
            have hfz9_0 := blk_frozen HGz9 0
            have hfz9_1 := blk_frozen HGz9 1
            have hfz9_2 := blk_frozen HGz9 2
            have hfz9_3 := blk_frozen HGz9 3
            have hfz9_4 := blk_frozen HGz9 4
            clear HGz9 hgz9
            go_wp2_with (first | (go_at_call 15; (with_reducible refine (spec_scan_rune.calls k1 g x1000_1 x1001_1 x1002_1 x1003_1 x1004_1 t122 t123 t124 t125 t126 t127 t128 w0 _ ?side1 ?side2 A3.out).mono ?_); (case side1 => repeat (first | (with_reducible first | exact HI0.out | apply IsS51.alloc | apply IsS51.drewN | apply IsS51.drew | apply IsS51.set_0 | apply IsS51.set_1 | apply IsS51.set_2 | apply IsS51.set_3 | apply IsS51.set_4) | exact HI0.out)); (case side2 => repeat (first | (with_reducible first | exact HB.out | apply below_alloc | apply pw_below_drewN | apply below_drew1 | refine below_set ?_ (IsS51.ge HI0.out)) | exact HB.out)); rintro e w10 ⟨rfl, hi, hb, hk⟩; have n0_ := Aside0.mk (KeepBut.trans (by repeat (first | (with_reducible first | exact HK.out | apply KeepBut.set_ | apply keep_drewN | apply keep_drew | apply keep_alloc) | exact HK.out)) hk (.inl rfl)); have n1_ := Aside0.mk (hb); have n2_ := Aside0.mk (hi); clear HK; clear HB; clear HI0; have HK := n0_; have HB := n1_; have HI0 := n2_; clear n0_ n1_ n2_; (try clear hb); (try clear hb2); (try clear hk); (try clear hi)) | (go_at_call 17; (with_reducible refine (spec_LineEnd.calls t122 false _ A4.out).mono ?_); rintro e w' ⟨rfl, ⟨nd, rfl⟩⟩; (try first | exact ⟨rfl, _, World.drewN_drewN _ _ _⟩ | exact ⟨rfl, _, Eq.trans (World.drewN_drewN _ _ _) (congrArg (World.drewN _) (Nat.add_assoc _ _ _))⟩)))
            repeat (go_quiet (first | (go_at_call 15; (with_reducible refine (spec_scan_rune.calls k1 g x1000_1 x1001_1 x1002_1 x1003_1 x1004_1 t122 t123 t124 t125 t126 t127 t128 w0 _ ?side1 ?side2 A3.out).mono ?_); (case side1 => repeat (first | (with_reducible first | exact HI0.out | apply IsS51.alloc | apply IsS51.drewN | apply IsS51.drew | apply IsS51.set_0 | apply IsS51.set_1 | apply IsS51.set_2 | apply IsS51.set_3 | apply IsS51.set_4) | exact HI0.out)); (case side2 => repeat (first | (with_reducible first | exact HB.out | apply below_alloc | apply pw_below_drewN | apply below_drew1 | refine below_set ?_ (IsS51.ge HI0.out)) | exact HB.out)); rintro e w10 ⟨rfl, hi, hb, hk⟩; have n0_ := Aside0.mk (KeepBut.trans (by repeat (first | (with_reducible first | exact HK.out | apply KeepBut.set_ | apply keep_drewN | apply keep_drew | apply keep_alloc) | exact HK.out)) hk (.inl rfl)); have n1_ := Aside0.mk (hb); have n2_ := Aside0.mk (hi); clear HK; clear HB; clear HI0; have HK := n0_; have HB := n1_; have HI0 := n2_; clear n0_ n1_ n2_; (try clear hb); (try clear hb2); (try clear hk); (try clear hi)) | (go_at_call 17; (with_reducible refine (spec_LineEnd.calls t122 false _ A4.out).mono ?_); rintro e w' ⟨rfl, ⟨nd, rfl⟩⟩; (try first | exact ⟨rfl, _, World.drewN_drewN _ _ _⟩ | exact ⟨rfl, _, Eq.trans (World.drewN_drewN _ _ _) (congrArg (World.drewN _) (Nat.add_assoc _ _ _))⟩))); try go_wp2_with (first | (go_at_call 15; (with_reducible refine (spec_scan_rune.calls k1 g x1000_1 x1001_1 x1002_1 x1003_1 x1004_1 t122 t123 t124 t125 t126 t127 t128 w0 _ ?side1 ?side2 A3.out).mono ?_); (case side1 => repeat (first | (with_reducible first | exact HI0.out | apply IsS51.alloc | apply IsS51.drewN | apply IsS51.drew | apply IsS51.set_0 | apply IsS51.set_1 | apply IsS51.set_2 | apply IsS51.set_3 | apply IsS51.set_4) | exact HI0.out)); (case side2 => repeat (first | (with_reducible first | exact HB.out | apply below_alloc | apply pw_below_drewN | apply below_drew1 | refine below_set ?_ (IsS51.ge HI0.out)) | exact HB.out)); rintro e w10 ⟨rfl, hi, hb, hk⟩; have n0_ := Aside0.mk (KeepBut.trans (by repeat (first | (with_reducible first | exact HK.out | apply KeepBut.set_ | apply keep_drewN | apply keep_drew | apply keep_alloc) | exact HK.out)) hk (.inl rfl)); have n1_ := Aside0.mk (hb); have n2_ := Aside0.mk (hi); clear HK; clear HB; clear HI0; have HK := n0_; have HB := n1_; have HI0 := n2_; clear n0_ n1_ n2_; (try clear hb); (try clear hb2); (try clear hk); (try clear hi)) | (go_at_call 17; (with_reducible refine (spec_LineEnd.calls t122 false _ A4.out).mono ?_); rintro e w' ⟨rfl, ⟨nd, rfl⟩⟩; (try first | exact ⟨rfl, _, World.drewN_drewN _ _ _⟩ | exact ⟨rfl, _, Eq.trans (World.drewN_drewN _ _ _) (congrArg (World.drewN _) (Nat.add_assoc _ _ _))⟩))))
            first | go_end0 | ((try simp only [Exit.inBlock, Exit.then]); refine bodyPost_ret (results_none rfl _ _ _) rfl ?_)
            exact ⟨by first | rfl | (simp [errW_none, errW_some] <;> rfl) | (simp [*, errW_none, errW_some] <;> rfl), by repeat (first | (with_reducible first | exact HI0.out | apply IsS51.alloc | apply IsS51.drewN | apply IsS51.drew | apply IsS51.set_0 | apply IsS51.set_1 | apply IsS51.set_2 | apply IsS51.set_3 | apply IsS51.set_4) | exact HI0.out), by repeat (first | (with_reducible first | exact HB.out | apply below_alloc | apply pw_below_drewN | apply below_drew1 | refine below_set ?_ (IsS51.ge HI0.out)) | exact HB.out), by repeat (first | (with_reducible first | exact HK.out | apply KeepBut.set_ | apply keep_drewN | apply keep_drew | apply keep_alloc) | exact HK.out)⟩
          · rw [if_neg c8] at H
            have c8b0 : (t123 == 0) = false := beq_eq_false_iff_ne.mpr c8
            have c8b1 : (t123 != 0) = true := bne_iff_ne.mpr c8
            have H' := Aside0.mk H
            clear H
            obtain ⟨HGz11, hgz11⟩ := HI0.out
            have hcz11_0 := cellS51_0 HGz11
            have hcz11_1 := cellS51_1 HGz11
            have hcz11_2 := cellS51_2 HGz11
            have hcz11_3 := cellS51_3 HGz11
            have hcz11_4 := cellS51_4 HGz11
            have hfz11_0 := blk_frozen HGz11 0
            have hfz11_1 := blk_frozen HGz11 1
            have hfz11_2 := blk_frozen HGz11 2
            have hfz11_3 := blk_frozen HGz11 3
            have hfz11_4 := blk_frozen HGz11 4
            clear HGz11 hgz11
            go_wp2_with (first | (go_at_call 15; (with_reducible refine (spec_scan_rune.calls k1 g x1000_1 x1001_1 x1002_1 x1003_1 x1004_1 t122 t123 t124 t125 t126 t127 t128 w0 _ ?side1 ?side2 A3.out).mono ?_); (case side1 => repeat (first | (with_reducible first | exact HI0.out | apply IsS51.alloc | apply IsS51.drewN | apply IsS51.drew | apply IsS51.set_0 | apply IsS51.set_1 | apply IsS51.set_2 | apply IsS51.set_3 | apply IsS51.set_4) | exact HI0.out)); (case side2 => repeat (first | (with_reducible first | exact HB.out | apply below_alloc | apply pw_below_drewN | apply below_drew1 | refine below_set ?_ (IsS51.ge HI0.out)) | exact HB.out)); rintro e w12 ⟨rfl, hi, hb, hk⟩; have n0_ := Aside0.mk (KeepBut.trans (by repeat (first | (with_reducible first | exact HK.out | apply KeepBut.set_ | apply keep_drewN | apply keep_drew | apply keep_alloc) | exact HK.out)) hk (.inl rfl)); have n1_ := Aside0.mk (hb); have n2_ := Aside0.mk (hi); clear HK; clear HB; clear HI0; have HK := n0_; have HB := n1_; have HI0 := n2_; clear n0_ n1_ n2_; (try clear hb); (try clear hb2); (try clear hk); (try clear hi)) | (go_at_call 17; (with_reducible refine (spec_LineEnd.calls t122 false _ A4.out).mono ?_); rintro e w' ⟨rfl, ⟨nd, rfl⟩⟩; (try first | exact ⟨rfl, _, World.drewN_drewN _ _ _⟩ | exact ⟨rfl, _, Eq.trans (World.drewN_drewN _ _ _) (congrArg (World.drewN _) (Nat.add_assoc _ _ _))⟩); obtain ⟨HGz13, hgz13⟩ := HI0.out; have hcz13_0 := cellS51_0 HGz13; have hcz13_1 := cellS51_1 HGz13; have hcz13_2 := cellS51_2 HGz13; have hcz13_3 := cellS51_3 HGz13; have hcz13_4 := cellS51_4 HGz13; have hfz13_0 := blk_frozen HGz13 0; have hfz13_1 := blk_frozen HGz13 1; have hfz13_2 := blk_frozen HGz13 2; have hfz13_3 := blk_frozen HGz13 3; have hfz13_4 := blk_frozen HGz13 4; clear HGz13 hgz13))
            repeat (go_quiet (first | (go_at_call 15; (with_reducible refine (spec_scan_rune.calls k1 g x1000_1 x1001_1 x1002_1 x1003_1 x1004_1 t122 t123 t124 t125 t126 t127 t128 w0 _ ?side1 ?side2 A3.out).mono ?_); (case side1 => repeat (first | (with_reducible first | exact HI0.out | apply IsS51.alloc | apply IsS51.drewN | apply IsS51.drew | apply IsS51.set_0 | apply IsS51.set_1 | apply IsS51.set_2 | apply IsS51.set_3 | apply IsS51.set_4) | exact HI0.out)); (case side2 => repeat (first | (with_reducible first | exact HB.out | apply below_alloc | apply pw_below_drewN | apply below_drew1 | refine below_set ?_ (IsS51.ge HI0.out)) | exact HB.out)); rintro e w12 ⟨rfl, hi, hb, hk⟩; have n0_ := Aside0.mk (KeepBut.trans (by repeat (first | (with_reducible first | exact HK.out | apply KeepBut.set_ | apply keep_drewN | apply keep_drew | apply keep_alloc) | exact HK.out)) hk (.inl rfl)); have n1_ := Aside0.mk (hb); have n2_ := Aside0.mk (hi); clear HK; clear HB; clear HI0; have HK := n0_; have HB := n1_; have HI0 := n2_; clear n0_ n1_ n2_; (try clear hb); (try clear hb2); (try clear hk); (try clear hi)) | (go_at_call 17; (with_reducible refine (spec_LineEnd.calls t122 false _ A4.out).mono ?_); rintro e w' ⟨rfl, ⟨nd, rfl⟩⟩; (try first | exact ⟨rfl, _, World.drewN_drewN _ _ _⟩ | exact ⟨rfl, _, Eq.trans (World.drewN_drewN _ _ _) (congrArg (World.drewN _) (Nat.add_assoc _ _ _))⟩); obtain ⟨HGz13, hgz13⟩ := HI0.out; have hcz13_0 := cellS51_0 HGz13; have hcz13_1 := cellS51_1 HGz13; have hcz13_2 := cellS51_2 HGz13; have hcz13_3 := cellS51_3 HGz13; have hcz13_4 := cellS51_4 HGz13; have hfz13_0 := blk_frozen HGz13 0; have hfz13_1 := blk_frozen HGz13 1; have hfz13_2 := blk_frozen HGz13 2; have hfz13_3 := blk_frozen HGz13 3; have hfz13_4 := blk_frozen HGz13 4; clear HGz13 hgz13)); try go_wp2_with (first | (go_at_call 15; (with_reducible refine (spec_scan_rune.calls k1 g x1000_1 x1001_1 x1002_1 x1003_1 x1004_1 t122 t123 t124 t125 t126 t127 t128 w0 _ ?side1 ?side2 A3.out).mono ?_); (case side1 => repeat (first | (with_reducible first | exact HI0.out | apply IsS51.alloc | apply IsS51.drewN | apply IsS51.drew | apply IsS51.set_0 | apply IsS51.set_1 | apply IsS51.set_2 | apply IsS51.set_3 | apply IsS51.set_4) | exact HI0.out)); (case side2 => repeat (first | (with_reducible first | exact HB.out | apply below_alloc | apply pw_below_drewN | apply below_drew1 | refine below_set ?_ (IsS51.ge HI0.out)) | exact HB.out)); rintro e w12 ⟨rfl, hi, hb, hk⟩; have n0_ := Aside0.mk (KeepBut.trans (by repeat (first | (with_reducible first | exact HK.out | apply KeepBut.set_ | apply keep_drewN | apply keep_drew | apply keep_alloc) | exact HK.out)) hk (.inl rfl)); have n1_ := Aside0.mk (hb); have n2_ := Aside0.mk (hi); clear HK; clear HB; clear HI0; have HK := n0_; have HB := n1_; have HI0 := n2_; clear n0_ n1_ n2_; (try clear hb); (try clear hb2); (try clear hk); (try clear hi)) | (go_at_call 17; (with_reducible refine (spec_LineEnd.calls t122 false _ A4.out).mono ?_); rintro e w' ⟨rfl, ⟨nd, rfl⟩⟩; (try first | exact ⟨rfl, _, World.drewN_drewN _ _ _⟩ | exact ⟨rfl, _, Eq.trans (World.drewN_drewN _ _ _) (congrArg (World.drewN _) (Nat.add_assoc _ _ _))⟩); obtain ⟨HGz13, hgz13⟩ := HI0.out; have hcz13_0 := cellS51_0 HGz13; have hcz13_1 := cellS51_1 HGz13; have hcz13_2 := cellS51_2 HGz13; have hcz13_3 := cellS51_3 HGz13; have hcz13_4 := cellS51_4 HGz13; have hfz13_0 := blk_frozen HGz13 0; have hfz13_1 := blk_frozen HGz13 1; have hfz13_2 := blk_frozen HGz13 2; have hfz13_3 := blk_frozen HGz13 3; have hfz13_4 := blk_frozen HGz13 4; clear HGz13 hgz13)))
            go_roundg k1
            case measure => have := HK1.out; omega
            case rel => exact ⟨(t124), (wrap64 (t125 + t123)), (t126), (t127), (t128), H', ⟨by have := HK1.out; omega⟩, ⟨by repeat (first | (with_reducible first | exact HI0.out | apply IsS51.alloc | apply IsS51.drewN | apply IsS51.drew | apply IsS51.set_0 | apply IsS51.set_1 | apply IsS51.set_2 | apply IsS51.set_3 | apply IsS51.set_4) | exact HI0.out)⟩, ⟨by repeat (first | (with_reducible first | exact HK.out | apply KeepBut.set_ | apply keep_drewN | apply keep_drew | apply keep_alloc) | exact HK.out)⟩, ⟨by repeat (first | (with_reducible first | exact HB.out | apply below_alloc | apply pw_below_drewN | apply below_drew1 | refine below_set ?_ (IsS51.ge HI0.out)) | exact HB.out)⟩⟩
      · rw [if_neg c2] at H
        have c2b0 : decide (x1001_1 < (x1000_1.size : Int)) = false := decide_eq_false c2
        clear c2
        simp only [Option.some.injEq, Prod.mk.injEq] at H
        obtain ⟨rfl, rfl, rfl, rfl, rfl⟩ := H
        obtain ⟨HGz14, hgz14⟩ := HI0.out
        have hcz14_0 := cellS51_0 HGz14
        have hcz14_1 := cellS51_1 HGz14
        have hcz14_2 := cellS51_2 HGz14
        have hcz14_3 := cellS51_3 HGz14
        have hcz14_4 := cellS51_4 HGz14
        have hfz14_0 := blk_frozen HGz14 0
        have hfz14_1 := blk_frozen HGz14 1
        have hfz14_2 := blk_frozen HGz14 2
        have hfz14_3 := blk_frozen HGz14 3
        have hfz14_4 := blk_frozen HGz14 4
        clear HGz14 hgz14
        go_wp2
        repeat (go_quiet (fail); try go_wp2)
        first | go_end0 | ((try simp only [Exit.inBlock, Exit.then]); refine bodyPost_ret (results_none rfl _ _ _) rfl ?_)
        exact ⟨by first | rfl | (simp [errW_none, errW_some] <;> rfl) | (simp [*, errW_none, errW_some] <;> rfl), by repeat (first | (with_reducible first | exact HI0.out | apply IsS51.alloc | apply IsS51.drewN | apply IsS51.drew | apply IsS51.set_0 | apply IsS51.set_1 | apply IsS51.set_2 | apply IsS51.set_3 | apply IsS51.set_4) | exact HI0.out), by repeat (first | (with_reducible first | exact HB.out | apply below_alloc | apply pw_below_drewN | apply below_drew1 | refine below_set ?_ (IsS51.ge HI0.out)) | exact HB.out), by repeat (first | (with_reducible first | exact HK.out | apply KeepBut.set_ | apply keep_drewN | apply keep_drew | apply keep_alloc) | exact HK.out)⟩

/-! ### spec_scan_fail: function 16 -/
def spec_scan_fail.f (s0_0 : ByteArray) (s0_1 : Int) (s0_2 : Bool) (s0_3 : Bool) (s0_4 : Int) (a1 : Int) : Option (ByteArray × Int × Bool × Bool × Int) := if s0_4 = 0 then (some (s0_0, s0_1, s0_2, s0_3, a1)) else (some (s0_0, s0_1, s0_2, s0_3, s0_4))
set_option maxHeartbeats 8000000 in
set_option maxRecDepth 100000 in
theorem spec_scan_fail.calls (g : Nat) (s0_0 : ByteArray) (s0_1 : Int) (s0_2 : Bool) (s0_3 : Bool) (s0_4 : Int) (a1 : Int) (r1 : ByteArray) (r2 : Int) (r3 : Bool) (r4 : Bool) (r5 : Int) (w0 w : World) (hI : IsS51 w0 w g s0_0 s0_1 s0_2 s0_3 s0_4) (hB : Below w0.heap.size w0 w) (h : spec_scan_fail.f s0_0 s0_1 s0_2 s0_3 s0_4 a1 = some (r1, r2, r3, r4, r5)) :
    Calls Try.prog 16 #[.pointer (some ⟨g, 0, none⟩), .int .i64 a1] w fun e w' => e = .returned (.tuple #[]) ∧ IsS51 w0 w' g r1 r2 r3 r4 r5 ∧ Below w0.heap.size w0 w' ∧ KeepBut w w' g none := by
  have HI0 := Aside0.mk hI
  have HK := Aside0.mk (KeepBut.refl w g none)
  have HL := Aside0.mk hB.size
  clear hI
  have HW0 := Aside0.mk hB.size
  have HB := Aside0.mk hB
  clear hB
  have H : (if s0_4 = 0 then (some (s0_0, s0_1, s0_2, s0_3, a1)) else (some (s0_0, s0_1, s0_2, s0_3, s0_4))) = some (r1, r2, r3, r4, r5) := h
  clear h
  by_cases c3 : s0_4 = 0
  · rw [if_pos c3] at H
    have c3b0 : (s0_4 == 0) = true := beq_iff_eq.mpr c3
    have c3b1 : (s0_4 != 0) = false := bne_eq_false_iff_eq.mpr c3
    clear c3
    simp only [Option.some.injEq, Prod.mk.injEq] at H
    obtain ⟨rfl, rfl, rfl, rfl, rfl⟩ := H
    obtain ⟨HGz4, hgz4⟩ := HI0.out
    have hcz4_0 := cellS51_0 HGz4
    have hcz4_1 := cellS51_1 HGz4
    have hcz4_2 := cellS51_2 HGz4
    have hcz4_3 := cellS51_3 HGz4
    have hcz4_4 := cellS51_4 HGz4
    have hfz4_0 := blk_frozen HGz4 0
    have hfz4_1 := blk_frozen HGz4 1
    have hfz4_2 := blk_frozen HGz4 2
    have hfz4_3 := blk_frozen HGz4 3
    have hfz4_4 := blk_frozen HGz4 4
    clear HGz4 hgz4
    go_enter Try.func16, Try.ntmps16
    go_wp2
    first | go_end0 | ((try simp only [Exit.inBlock, Exit.then]); refine bodyPost_ret (results_none rfl _ _ _) rfl ?_)
    exact ⟨by first | rfl | (simp [errW_none, errW_some] <;> rfl) | (simp [*, errW_none, errW_some] <;> rfl), by repeat (first | (with_reducible first | exact HI0.out | apply IsS51.alloc | apply IsS51.drewN | apply IsS51.drew | apply IsS51.set_0 | apply IsS51.set_1 | apply IsS51.set_2 | apply IsS51.set_3 | apply IsS51.set_4) | exact HI0.out), by repeat (first | (with_reducible first | exact HB.out | apply below_alloc | apply pw_below_drewN | apply below_drew1 | refine below_set ?_ (IsS51.ge HI0.out)) | exact HB.out), by repeat (first | (with_reducible first | exact HK.out | apply KeepBut.set_ | apply keep_drewN | apply keep_drew | apply keep_alloc) | exact HK.out)⟩
  · rw [if_neg c3] at H
    have c3b0 : (s0_4 == 0) = false := beq_eq_false_iff_ne.mpr c3
    have c3b1 : (s0_4 != 0) = true := bne_iff_ne.mpr c3
    simp only [Option.some.injEq, Prod.mk.injEq] at H
    obtain ⟨rfl, rfl, rfl, rfl, rfl⟩ := H
    obtain ⟨HGz5, hgz5⟩ := HI0.out
    have hcz5_0 := cellS51_0 HGz5
    have hcz5_1 := cellS51_1 HGz5
    have hcz5_2 := cellS51_2 HGz5
    have hcz5_3 := cellS51_3 HGz5
    have hcz5_4 := cellS51_4 HGz5
    have hfz5_0 := blk_frozen HGz5 0
    have hfz5_1 := blk_frozen HGz5 1
    have hfz5_2 := blk_frozen HGz5 2
    have hfz5_3 := blk_frozen HGz5 3
    have hfz5_4 := blk_frozen HGz5 4
    clear HGz5 hgz5
    go_enter Try.func16, Try.ntmps16
    go_wp2
    first | go_end0 | ((try simp only [Exit.inBlock, Exit.then]); refine bodyPost_ret (results_none rfl _ _ _) rfl ?_)
    exact ⟨by first | rfl | (simp [errW_none, errW_some] <;> rfl) | (simp [*, errW_none, errW_some] <;> rfl), by repeat (first | (with_reducible first | exact HI0.out | apply IsS51.alloc | apply IsS51.drewN | apply IsS51.drew | apply IsS51.set_0 | apply IsS51.set_1 | apply IsS51.set_2 | apply IsS51.set_3 | apply IsS51.set_4) | exact HI0.out), by repeat (first | (with_reducible first | exact HB.out | apply below_alloc | apply pw_below_drewN | apply below_drew1 | refine below_set ?_ (IsS51.ge HI0.out)) | exact HB.out), by repeat (first | (with_reducible first | exact HK.out | apply KeepBut.set_ | apply keep_drewN | apply keep_drew | apply keep_alloc) | exact HK.out)⟩

/-! ### spec_between: function 28 -/
def spec_between.f (a0 : Int) (a1 : Int) (a2 : Int) : Option (Bool) := if a0 ≤ a1 then (some (decide (a1 ≤ a2))) else (some false)
set_option maxHeartbeats 8000000 in
set_option maxRecDepth 100000 in
theorem spec_between.calls (a0 : Int) (a1 : Int) (a2 : Int) (r : Bool) (w : World) (h : spec_between.f a0 a1 a2 = some r) :
    Calls Try.prog 28 #[.int .i64 a0, .int .i64 a1, .int .i64 a2] w fun e w' => e = .returned (.bool r) ∧ Drawn0 w w' := by
  have H : (if a0 ≤ a1 then (some (decide (a1 ≤ a2))) else (some false)) = some r := h
  clear h
  by_cases c4 : a0 ≤ a1
  · rw [if_pos c4] at H
    have c4b0 : decide (a0 ≤ a1) = true := decide_eq_true c4
    clear c4
    obtain rfl := Option.some.inj H
    go_enter Try.func28, Try.ntmps28
    go_wp2
    go_ret
    exact ⟨by first | rfl | (simp; done) | (simp [*]; done), by repeat (first | exact Drawn0.refl _ | apply Drawn0.step)⟩
  · rw [if_neg c4] at H
    have c4b0 : decide (a0 ≤ a1) = false := decide_eq_false c4
    clear c4
    obtain rfl := Option.some.inj H
    go_enter Try.func28, Try.ntmps28
    go_wp2
    go_ret
    exact ⟨by first | rfl | (simp; done) | (simp [*]; done), by repeat (first | exact Drawn0.refl _ | apply Drawn0.step)⟩

/-! ### spec_Blank: function 18 -/
def spec_Blank.f (a0 : Int) : Option (Bool) := if a0 = 9 then (some true) else (if a0 = 11 then (some true) else (if a0 = 12 then (some true) else (if a0 = 32 then (some true) else (if a0 = 160 then (some true) else (if a0 = 65279 then (some true) else (if a0 = 5760 then (some true) else (if a0 = 8239 then (some true) else (if a0 = 8287 then (some true) else (if a0 = 12288 then (some true) else ((spec_between.f 8192 a0 8202).bind fun t130 => (some t130)))))))))))
set_option maxHeartbeats 8000000 in
set_option maxRecDepth 100000 in
theorem spec_Blank.calls (a0 : Int) (r : Bool) (w : World) (h : spec_Blank.f a0 = some r) :
    Calls Try.prog 18 #[.int .i64 a0] w fun e w' => e = .returned (.bool r) ∧ Drawn0 w w' := by
  have H : (if a0 = 9 then (some true) else (if a0 = 11 then (some true) else (if a0 = 12 then (some true) else (if a0 = 32 then (some true) else (if a0 = 160 then (some true) else (if a0 = 65279 then (some true) else (if a0 = 5760 then (some true) else (if a0 = 8239 then (some true) else (if a0 = 8287 then (some true) else (if a0 = 12288 then (some true) else ((spec_between.f 8192 a0 8202).bind fun t130 => (some t130)))))))))))) = some r := h
  clear h
  by_cases c2 : a0 = 9
  · rw [if_pos c2] at H
    have c2b0 : (a0 == 9) = true := beq_iff_eq.mpr c2
    have c2b1 : (a0 != 9) = false := bne_eq_false_iff_eq.mpr c2
    clear c2
    obtain rfl := Option.some.inj H
    go_enter Try.func18, Try.ntmps18
    go_wp2
    go_ret
    exact ⟨by first | rfl | (simp; done) | (simp [*]; done), by repeat (first | exact Drawn0.refl _ | apply Drawn0.step)⟩
  · rw [if_neg c2] at H
    have c2b0 : (a0 == 9) = false := beq_eq_false_iff_ne.mpr c2
    have c2b1 : (a0 != 9) = true := bne_iff_ne.mpr c2
    by_cases c3 : a0 = 11
    · rw [if_pos c3] at H
      have c3b0 : (a0 == 11) = true := beq_iff_eq.mpr c3
      have c3b1 : (a0 != 11) = false := bne_eq_false_iff_eq.mpr c3
      clear c3
      obtain rfl := Option.some.inj H
      go_enter Try.func18, Try.ntmps18
      go_wp2
      go_ret
      exact ⟨by first | rfl | (simp; done) | (simp [*]; done), by repeat (first | exact Drawn0.refl _ | apply Drawn0.step)⟩
    · rw [if_neg c3] at H
      have c3b0 : (a0 == 11) = false := beq_eq_false_iff_ne.mpr c3
      have c3b1 : (a0 != 11) = true := bne_iff_ne.mpr c3
      by_cases c4 : a0 = 12
      · rw [if_pos c4] at H
        have c4b0 : (a0 == 12) = true := beq_iff_eq.mpr c4
        have c4b1 : (a0 != 12) = false := bne_eq_false_iff_eq.mpr c4
        clear c4
        obtain rfl := Option.some.inj H
        go_enter Try.func18, Try.ntmps18
        go_wp2
        go_ret
        exact ⟨by first | rfl | (simp; done) | (simp [*]; done), by repeat (first | exact Drawn0.refl _ | apply Drawn0.step)⟩
      · rw [if_neg c4] at H
        have c4b0 : (a0 == 12) = false := beq_eq_false_iff_ne.mpr c4
        have c4b1 : (a0 != 12) = true := bne_iff_ne.mpr c4
        by_cases c5 : a0 = 32
        · rw [if_pos c5] at H
          have c5b0 : (a0 == 32) = true := beq_iff_eq.mpr c5
          have c5b1 : (a0 != 32) = false := bne_eq_false_iff_eq.mpr c5
          clear c5
          obtain rfl := Option.some.inj H
          go_enter Try.func18, Try.ntmps18
          go_wp2
          go_ret
          exact ⟨by first | rfl | (simp; done) | (simp [*]; done), by repeat (first | exact Drawn0.refl _ | apply Drawn0.step)⟩
        · rw [if_neg c5] at H
          have c5b0 : (a0 == 32) = false := beq_eq_false_iff_ne.mpr c5
          have c5b1 : (a0 != 32) = true := bne_iff_ne.mpr c5
          by_cases c6 : a0 = 160
          · rw [if_pos c6] at H
            have c6b0 : (a0 == 160) = true := beq_iff_eq.mpr c6
            have c6b1 : (a0 != 160) = false := bne_eq_false_iff_eq.mpr c6
            clear c6
            obtain rfl := Option.some.inj H
            go_enter Try.func18, Try.ntmps18
            go_wp2
            go_ret
            exact ⟨by first | rfl | (simp; done) | (simp [*]; done), by repeat (first | exact Drawn0.refl _ | apply Drawn0.step)⟩
          · rw [if_neg c6] at H
            have c6b0 : (a0 == 160) = false := beq_eq_false_iff_ne.mpr c6
            have c6b1 : (a0 != 160) = true := bne_iff_ne.mpr c6
            by_cases c7 : a0 = 65279
            · rw [if_pos c7] at H
              have c7b0 : (a0 == 65279) = true := beq_iff_eq.mpr c7
              have c7b1 : (a0 != 65279) = false := bne_eq_false_iff_eq.mpr c7
              clear c7
              obtain rfl := Option.some.inj H
              go_enter Try.func18, Try.ntmps18
              go_wp2
              go_ret
              exact ⟨by first | rfl | (simp; done) | (simp [*]; done), by repeat (first | exact Drawn0.refl _ | apply Drawn0.step)⟩
            · rw [if_neg c7] at H
              have c7b0 : (a0 == 65279) = false := beq_eq_false_iff_ne.mpr c7
              have c7b1 : (a0 != 65279) = true := bne_iff_ne.mpr c7
              by_cases c8 : a0 = 5760
              · rw [if_pos c8] at H
                have c8b0 : (a0 == 5760) = true := beq_iff_eq.mpr c8
                have c8b1 : (a0 != 5760) = false := bne_eq_false_iff_eq.mpr c8
                clear c8
                obtain rfl := Option.some.inj H
                go_enter Try.func18, Try.ntmps18
                go_wp2
                go_ret
                exact ⟨by first | rfl | (simp; done) | (simp [*]; done), by repeat (first | exact Drawn0.refl _ | apply Drawn0.step)⟩
              · rw [if_neg c8] at H
                have c8b0 : (a0 == 5760) = false := beq_eq_false_iff_ne.mpr c8
                have c8b1 : (a0 != 5760) = true := bne_iff_ne.mpr c8
                by_cases c9 : a0 = 8239
                · rw [if_pos c9] at H
                  have c9b0 : (a0 == 8239) = true := beq_iff_eq.mpr c9
                  have c9b1 : (a0 != 8239) = false := bne_eq_false_iff_eq.mpr c9
                  clear c9
                  obtain rfl := Option.some.inj H
                  go_enter Try.func18, Try.ntmps18
                  go_wp2
                  go_ret
                  exact ⟨by first | rfl | (simp; done) | (simp [*]; done), by repeat (first | exact Drawn0.refl _ | apply Drawn0.step)⟩
                · rw [if_neg c9] at H
                  have c9b0 : (a0 == 8239) = false := beq_eq_false_iff_ne.mpr c9
                  have c9b1 : (a0 != 8239) = true := bne_iff_ne.mpr c9
                  by_cases c10 : a0 = 8287
                  · rw [if_pos c10] at H
                    have c10b0 : (a0 == 8287) = true := beq_iff_eq.mpr c10
                    have c10b1 : (a0 != 8287) = false := bne_eq_false_iff_eq.mpr c10
                    clear c10
                    obtain rfl := Option.some.inj H
                    go_enter Try.func18, Try.ntmps18
                    go_wp2
                    go_ret
                    exact ⟨by first | rfl | (simp; done) | (simp [*]; done), by repeat (first | exact Drawn0.refl _ | apply Drawn0.step)⟩
                  · rw [if_neg c10] at H
                    have c10b0 : (a0 == 8287) = false := beq_eq_false_iff_ne.mpr c10
                    have c10b1 : (a0 != 8287) = true := bne_iff_ne.mpr c10
                    by_cases c11 : a0 = 12288
                    · rw [if_pos c11] at H
                      have c11b0 : (a0 == 12288) = true := beq_iff_eq.mpr c11
                      have c11b1 : (a0 != 12288) = false := bne_eq_false_iff_eq.mpr c11
                      clear c11
                      obtain rfl := Option.some.inj H
                      go_enter Try.func18, Try.ntmps18
                      go_wp2
                      go_ret
                      exact ⟨by first | rfl | (simp; done) | (simp [*]; done), by repeat (first | exact Drawn0.refl _ | apply Drawn0.step)⟩
                    · rw [if_neg c11] at H
                      have c11b0 : (a0 == 12288) = false := beq_eq_false_iff_ne.mpr c11
                      have c11b1 : (a0 != 12288) = true := bne_iff_ne.mpr c11
                      replace H := Option.bind_eq_some_iff.mp H
                      obtain ⟨t130, A120, H⟩ := H
                      replace H : (some t130) = some r := H
                      have A12 := Aside0.mk A120
                      clear A120
                      obtain rfl := Option.some.inj H
                      go_enter Try.func18, Try.ntmps18
                      go_wp2_with (first | ((with_reducible refine gate_callee (f := 28) rfl ?_); refine goesL_ (some 16) rfl rfl Try.func28 (by kernel_rfl) rfl #[.int .i64 8192, .int .i64 a0, .int .i64 8202] rfl (by (try simp only [List.map_toArray, List.map_cons, List.map_nil]); first | done | rfl | (simp only [List.length_drop, List.length_take]; rfl)) ?_; (with_reducible refine (spec_between.calls 8192 a0 8202 t130 _ A12.out).mono ?_); rintro e w' ⟨rfl, ⟨nd, rfl⟩⟩; refine ⟨_, rfl, ?_⟩))
                      go_ret
                      exact ⟨by first | rfl | (simp; done) | (simp [*]; done), by repeat (first | exact Drawn0.refl _ | apply Drawn0.step)⟩

end Go.Proofs.Ytnciphcnkbcncaa.PFnRangeOfString
