/-
  FnExportNames: the contracts of zzFits5 and of spec's small functions, as print.sh writes them (the files that it puts them into hold other functions, too, whose texts fall).
  Conditions: as each says.
-/
import Derived.Test.YtgflhmihmdflcaaDoorPFnExportNamesx0
namespace Go.Proofs.YtgflhmihmdflcaaDoor.PFnExportNames
open Go.RowKit Go.Proofs.YtgflhmihmdflcaaDoorW.PrintWords Go.Proofs.YtgflhmihmdflcaaDoorW.PrintLast Go.Proofs.YtgflhmihmdflcaaDoorW.PrintMore
attribute [local go_sem] max2_int min2_int max_two min_two max_three min_three max_four min_four
set_option linter.unusedVariables false
set_option linter.unusedSimpArgs false
def IsS54 (w0 W : World) (g : Nat) (f0 : ByteArray) (f1 : Int) (f2 : Bool) (f3 : Bool) (f4 : Int) : Prop := W.heap[g]? = some (.cells #[.string f0, .int .i64 f1, .bool f2, .bool f3, .int .i64 f4] 54 (0, 0)) ∧ w0.heap.size ≤ g
theorem IsS54.grown {w0 W : World} {g : Nat} {f0 : ByteArray} {f1 : Int} {f2 : Bool} {f3 : Bool} {f4 : Int} {W1 : World} {row : Option Nat} (h : IsS54 w0 W g f0 f1 f2 f3 f4) (hw : W.grownBy W1 row) (hne : some g ≠ row) : IsS54 w0 W1 g f0 f1 f2 f3 f4 := by
  obtain ⟨hb, hg⟩ := h
  exact ⟨blk_grown hb hw hne, hg⟩
theorem IsS54.own_neN {w0 W : World} {g : Nat} {f0 : ByteArray} {f1 : Int} {f2 : Bool} {f3 : Bool} {f4 : Int} {α : Type} {d : Kd α} {e : Nat} {base : Nat} {ok : Nat → Prop} {v : Value} {xs : List α} (h : IsS54 w0 W g f0 f1 f2 f3 f4) (ho : Kd.N d e W base ok v xs) (ht : e ≠ 54) : some g ≠ v.ownBlock := by
  obtain ⟨hb, hg⟩ := h
  exact Kd.N_ne ho hb ht
theorem IsS54.fresh {w0 W : World} {g : Nat} {f0 : ByteArray} {f1 : Int} {f2 : Bool} {f3 : Bool} {f4 : Int} (h : IsS54 w0 W g f0 f1 f2 f3 f4) : ∀ k, W.heap.size ≤ k → k ≠ g := by
  obtain ⟨hb, hg⟩ := h
  exact Kd.freshB hb
theorem IsS54.kept {w0 W : World} {g : Nat} {f0 : ByteArray} {f1 : Int} {f2 : Bool} {f3 : Bool} {f4 : Int} {W1 : World} {S : Nat → Prop} (h : IsS54 w0 W g f0 f1 f2 f3 f4) (hk : Kept W W1 S) (hne : ¬ S g) : IsS54 w0 W1 g f0 f1 f2 f3 f4 := by
  obtain ⟨hb, hg⟩ := h
  exact ⟨blk_kept hb hk hne, hg⟩
theorem IsS54.below {w0 W : World} {g : Nat} {f0 : ByteArray} {f1 : Int} {f2 : Bool} {f3 : Bool} {f4 : Int} {W1 : World} (h : IsS54 w0 W g f0 f1 f2 f3 f4) (hw : Below W.heap.size W W1) : IsS54 w0 W1 g f0 f1 f2 f3 f4 := h.grown (grown_of_below hw none) (by simp)
theorem IsS54.alloc {w0 W : World} {g : Nat} {f0 : ByteArray} {f1 : Int} {f2 : Bool} {f3 : Bool} {f4 : Int} (h : IsS54 w0 W g f0 f1 f2 f3 f4) (o : Obj) : IsS54 w0 (W.alloc o) g f0 f1 f2 f3 f4 := h.below (below_alloc (Below.refl _ _) o)
theorem IsS54.drewN {w0 W : World} {g : Nat} {f0 : ByteArray} {f1 : Int} {f2 : Bool} {f3 : Bool} {f4 : Int} (h : IsS54 w0 W g f0 f1 f2 f3 f4) (m : Nat) : IsS54 w0 (W.drewN m) g f0 f1 f2 f3 f4 := h
theorem IsS54.drew {w0 W : World} {g : Nat} {f0 : ByteArray} {f1 : Int} {f2 : Bool} {f3 : Bool} {f4 : Int} (h : IsS54 w0 W g f0 f1 f2 f3 f4) : IsS54 w0 W.drew g f0 f1 f2 f3 f4 := h
theorem IsS54.at_ {w0 W : World} {g : Nat} {f0 : ByteArray} {f1 : Int} {f2 : Bool} {f3 : Bool} {f4 : Int} {w' : World} {m : Nat} (hq : W.drewN m = w') (h : IsS54 w0 W g f0 f1 f2 f3 f4) : IsS54 w0 w' g f0 f1 f2 f3 f4 := by subst hq; exact IsS54.drewN h m
theorem IsS54.apart {w0 W : World} {g : Nat} {f0 : ByteArray} {f1 : Int} {f2 : Bool} {f3 : Bool} {f4 : Int} {α : Type} {d : Kd α} {e : Nat} {base : Nat} {ok : Nat → Prop} {v : Value} {xs : List α} (h : IsS54 w0 W g f0 f1 f2 f3 f4) (ho : d.R e W base ok v xs) (ht : ∀ q, q ∈ e :: d.E → q ≠ 54) : d.R e W base (fun k => ok k ∧ k ≠ g) v xs := by
  obtain ⟨hb, hg⟩ := h
  exact Kd.R_types ho hb ht
theorem IsS54.own_ne {w0 W : World} {g : Nat} {f0 : ByteArray} {f1 : Int} {f2 : Bool} {f3 : Bool} {f4 : Int} {α : Type} {d : Kd α} {e : Nat} {base : Nat} {ok : Nat → Prop} {v : Value} {xs : List α} (h : IsS54 w0 W g f0 f1 f2 f3 f4) (ho : d.R e W base ok v xs) (ht : e ≠ 54) : some g ≠ v.ownBlock := by
  obtain ⟨hb, hg⟩ := h
  exact Kd.R_ne ho hb ht
theorem IsS54.apartQ {w0 W : World} {g : Nat} {f0 : ByteArray} {f1 : Int} {f2 : Bool} {f3 : Bool} {f4 : Int} {α : Type} {d : Kd α} {e : Nat} {base : Nat} {ok : Nat → Prop} {v : Value} {xs : List α} (h : IsS54 w0 W g f0 f1 f2 f3 f4) (ho : d.Q e W base ok v xs) (ht : ∀ q, q ∈ e :: d.E → q ≠ 54) : d.Q e W base (fun k => ok k ∧ k ≠ g) v xs := by
  obtain ⟨hb, hg⟩ := h
  exact Kd.Q_types ho hb ht
theorem IsS54.own_neQ {w0 W : World} {g : Nat} {f0 : ByteArray} {f1 : Int} {f2 : Bool} {f3 : Bool} {f4 : Int} {α : Type} {d : Kd α} {e : Nat} {base : Nat} {ok : Nat → Prop} {v : Value} {xs : List α} (h : IsS54 w0 W g f0 f1 f2 f3 f4) (ho : d.Q e W base ok v xs) (ht : e ≠ 54) : some g ≠ v.ownBlock := by
  obtain ⟨hb, hg⟩ := h
  exact Kd.Q_ne ho hb ht
theorem IsS54.apartS {w0 W : World} {g : Nat} {f0 : ByteArray} {f1 : Int} {f2 : Bool} {f3 : Bool} {f4 : Int} {α : Type} {d : Kd α} {e : Nat} {base : Nat} {ok : Nat → Prop} {v : Value} {xs : List α} (h : IsS54 w0 W g f0 f1 f2 f3 f4) (ho : d.S e W base ok v xs) (ht : ∀ q, q ∈ e :: d.E → q ≠ 54) : d.S e W base (fun k => ok k ∧ k ≠ g) v xs := by
  obtain ⟨hb, hg⟩ := h
  exact Kd.S_types ho hb ht
theorem IsS54.own_neS {w0 W : World} {g : Nat} {f0 : ByteArray} {f1 : Int} {f2 : Bool} {f3 : Bool} {f4 : Int} {α : Type} {d : Kd α} {e : Nat} {base : Nat} {ok : Nat → Prop} {v : Value} {xs : List α} (h : IsS54 w0 W g f0 f1 f2 f3 f4) (ho : d.S e W base ok v xs) (ht : e ≠ 54) : some g ≠ v.ownBlock := by
  obtain ⟨hb, hg⟩ := h
  exact Kd.S_ne ho hb ht
theorem IsS54.lt {w0 W : World} {g : Nat} {f0 : ByteArray} {f1 : Int} {f2 : Bool} {f3 : Bool} {f4 : Int} (h : IsS54 w0 W g f0 f1 f2 f3 f4) : g < W.heap.size := by
  obtain ⟨hb, hg⟩ := h
  exact blk_lt hb
theorem IsS54.ge {w0 W : World} {g : Nat} {f0 : ByteArray} {f1 : Int} {f2 : Bool} {f3 : Bool} {f4 : Int} (h : IsS54 w0 W g f0 f1 f2 f3 f4) : w0.heap.size ≤ g := by
  obtain ⟨hb, hg⟩ := h
  exact hg
theorem IsS54.ne_blk {w0 W : World} {g : Nat} {f0 : ByteArray} {f1 : Int} {f2 : Bool} {f3 : Bool} {f4 : Int} {a : Nat} {cs : Array Value} {t : TypeId} {fr : Nat × Nat} (h : IsS54 w0 W g f0 f1 f2 f3 f4) (hb2 : W.heap[a]? = some (.cells cs t fr)) (ht : t ≠ 54) : g ≠ a := by
  obtain ⟨hb, hg⟩ := h
  rintro rfl
  rw [hb] at hb2
  injection hb2 with hb2
  injection hb2 with _ ht2
  exact ht ht2.symm
theorem IsS54.far {w0 W : World} {g : Nat} {f0 : ByteArray} {f1 : Int} {f2 : Bool} {f3 : Bool} {f4 : Int} {p : Addr} (h : IsS54 w0 W g f0 f1 f2 f3 f4) (hne : g ≠ p.block) (u : Value) : IsS54 w0 (W.setCell p u) g f0 f1 f2 f3 f4 := by
  obtain ⟨hb, hg⟩ := h
  exact ⟨blk_far hb hne u, hg⟩
theorem cellS54_0 {W : World} {g : Nat} {f0 : ByteArray} {f1 : Int} {f2 : Bool} {f3 : Bool} {f4 : Int} (h : W.heap[g]? = some (.cells #[.string f0, .int .i64 f1, .bool f2, .bool f3, .int .i64 f4] 54 (0, 0))) : W.cell? ⟨g, 0, none⟩ = some (.string f0) := (blk_cell h 0).trans rfl
theorem IsS54.set_0 {w0 W : World} {g : Nat} {f0 : ByteArray} {f1 : Int} {f2 : Bool} {f3 : Bool} {f4 : Int} (h : IsS54 w0 W g f0 f1 f2 f3 f4) (x : ByteArray) : IsS54 w0 (W.setCell ⟨g, 0, none⟩ (.string x)) g x f1 f2 f3 f4 := by
  obtain ⟨hb, hg⟩ := h
  exact ⟨by simpa using blk_set hb 0 (.string x), hg⟩
theorem cellS54_1 {W : World} {g : Nat} {f0 : ByteArray} {f1 : Int} {f2 : Bool} {f3 : Bool} {f4 : Int} (h : W.heap[g]? = some (.cells #[.string f0, .int .i64 f1, .bool f2, .bool f3, .int .i64 f4] 54 (0, 0))) : W.cell? ⟨g, 1, none⟩ = some (.int .i64 f1) := (blk_cell h 1).trans rfl
theorem IsS54.set_1 {w0 W : World} {g : Nat} {f0 : ByteArray} {f1 : Int} {f2 : Bool} {f3 : Bool} {f4 : Int} (h : IsS54 w0 W g f0 f1 f2 f3 f4) (x : Int) : IsS54 w0 (W.setCell ⟨g, 1, none⟩ (.int .i64 x)) g f0 x f2 f3 f4 := by
  obtain ⟨hb, hg⟩ := h
  exact ⟨by simpa using blk_set hb 1 (.int .i64 x), hg⟩
theorem cellS54_2 {W : World} {g : Nat} {f0 : ByteArray} {f1 : Int} {f2 : Bool} {f3 : Bool} {f4 : Int} (h : W.heap[g]? = some (.cells #[.string f0, .int .i64 f1, .bool f2, .bool f3, .int .i64 f4] 54 (0, 0))) : W.cell? ⟨g, 2, none⟩ = some (.bool f2) := (blk_cell h 2).trans rfl
theorem IsS54.set_2 {w0 W : World} {g : Nat} {f0 : ByteArray} {f1 : Int} {f2 : Bool} {f3 : Bool} {f4 : Int} (h : IsS54 w0 W g f0 f1 f2 f3 f4) (x : Bool) : IsS54 w0 (W.setCell ⟨g, 2, none⟩ (.bool x)) g f0 f1 x f3 f4 := by
  obtain ⟨hb, hg⟩ := h
  exact ⟨by simpa using blk_set hb 2 (.bool x), hg⟩
theorem cellS54_3 {W : World} {g : Nat} {f0 : ByteArray} {f1 : Int} {f2 : Bool} {f3 : Bool} {f4 : Int} (h : W.heap[g]? = some (.cells #[.string f0, .int .i64 f1, .bool f2, .bool f3, .int .i64 f4] 54 (0, 0))) : W.cell? ⟨g, 3, none⟩ = some (.bool f3) := (blk_cell h 3).trans rfl
theorem IsS54.set_3 {w0 W : World} {g : Nat} {f0 : ByteArray} {f1 : Int} {f2 : Bool} {f3 : Bool} {f4 : Int} (h : IsS54 w0 W g f0 f1 f2 f3 f4) (x : Bool) : IsS54 w0 (W.setCell ⟨g, 3, none⟩ (.bool x)) g f0 f1 f2 x f4 := by
  obtain ⟨hb, hg⟩ := h
  exact ⟨by simpa using blk_set hb 3 (.bool x), hg⟩
theorem cellS54_4 {W : World} {g : Nat} {f0 : ByteArray} {f1 : Int} {f2 : Bool} {f3 : Bool} {f4 : Int} (h : W.heap[g]? = some (.cells #[.string f0, .int .i64 f1, .bool f2, .bool f3, .int .i64 f4] 54 (0, 0))) : W.cell? ⟨g, 4, none⟩ = some (.int .i64 f4) := (blk_cell h 4).trans rfl
theorem IsS54.set_4 {w0 W : World} {g : Nat} {f0 : ByteArray} {f1 : Int} {f2 : Bool} {f3 : Bool} {f4 : Int} (h : IsS54 w0 W g f0 f1 f2 f3 f4) (x : Int) : IsS54 w0 (W.setCell ⟨g, 4, none⟩ (.int .i64 x)) g f0 f1 f2 f3 x := by
  obtain ⟨hb, hg⟩ := h
  exact ⟨by simpa using blk_set hb 4 (.int .i64 x), hg⟩
theorem IsS54.new (w0 W : World) (f0 : ByteArray) (f1 : Int) (f2 : Bool) (f3 : Bool) (f4 : Int) (hB : Below w0.heap.size w0 W) : IsS54 w0 (W.alloc (.cells #[.string f0, .int .i64 f1, .bool f2, .bool f3, .int .i64 f4] 54)) W.heap.size f0 f1 f2 f3 f4 := ⟨by simpa using heap_alloc_new W _, hB.size⟩

/-! ### laws_zzFits5: function 4 -/
def laws_zzFits5.l0 : Nat → List ByteArray → Int → Int → Option (Bool)
  | 0, _, _, _ => none
  | k + 1, x8, x9, x10 => if x10 < x9 then (if 0 ≤ x10 then (if x10 < (x8.length : Int) then (if ((rdOf ByteArray.empty x8 x10).size : Int) > 2147483647 then (some false) else (laws_zzFits5.l0 k x8 x9 (wrap64 (x10 + 1)))) else (none)) else (none)) else (some true)
def laws_zzFits5.f (k : Nat) (l0 : List ByteArray) : Option (Bool) := if (l0.length : Int) > 2147483647 then (some false) else (laws_zzFits5.l0 k l0 (l0.length : Int) 0)
theorem laws_zzFits5.mono_l : ∀ k, (∀ y0 y1 y2, LeO (laws_zzFits5.l0 k y0 y1 y2) (laws_zzFits5.l0 (k + 1) y0 y1 y2))
  | 0 => fun _ _ _ r h => by simp [laws_zzFits5.l0] at h
  | k + 1 => by
    have ih0 := laws_zzFits5.mono_l k
    · intro y0 y1 y2
      unfold laws_zzFits5.l0
      repeat' first
      | (with_reducible exact ih0 _ _ _)
      | (with_reducible exact LeO.refl _)
      | (with_reducible exact LeO.none _)
      | (with_reducible refine LeO.ite ?_ ?_)
      | (with_reducible refine LeO.bind ?_ (fun _ => ?_))
      | exact ih0 _ _ _
      | exact LeO.none _
      | refine LeO.ite ?_ ?_
      | refine LeO.bind ?_ (fun _ => ?_)
theorem laws_zzFits5.mono : ∀ a0 k, LeO (laws_zzFits5.f k a0) (laws_zzFits5.f (k + 1) a0) := by
  intro a0 k
  have ih0 := laws_zzFits5.mono_l k
  unfold laws_zzFits5.f
  repeat' first
      | (with_reducible exact ih0 _ _ _)
      | (with_reducible exact LeO.refl _)
      | (with_reducible exact LeO.none _)
      | (with_reducible refine LeO.ite ?_ ?_)
      | (with_reducible refine LeO.bind ?_ (fun _ => ?_))
      | exact ih0 _ _ _
      | exact LeO.none _
      | refine LeO.ite ?_ ?_
      | refine LeO.bind ?_ (fun _ => ?_)
set_option maxHeartbeats 8000000 in
set_option maxRecDepth 100000 in
theorem laws_zzFits5.calls (k : Nat) (A0 : Option Addr) (c0 : Nat) (l0 : List ByteArray) (r : Bool) (w : World) (hr0 : Kd.C Kd.string w A0 l0.length l0) (hc0 : l0.length ≤ c0) (h : laws_zzFits5.f k l0 = some r) :
    Calls Tryd.prog 4 #[.slice A0 l0.length c0] w fun e w' => e = .returned (.bool r) ∧ Drawn0 w w' := by
  have HR0 := Aside0.mk hr0
  have HC0 := Aside0.mk hc0
  clear hr0 hc0
  have H : (if (l0.length : Int) > 2147483647 then (some false) else (laws_zzFits5.l0 k l0 (l0.length : Int) 0)) = some r := h
  clear h
  by_cases c2 : (l0.length : Int) > 2147483647
  · rw [if_pos c2] at H
    have c2b0 : decide (2147483647 < (l0.length : Int)) = true := decide_eq_true c2
    have c2b1 : decide (2147483647 < l0.length) = true := decide_eq_true (by omega)
    clear c2
    obtain rfl := Option.some.inj H
    go_enter Tryd.func4, Tryd.ntmps4
    go_wp2
    go_ret
    exact ⟨by first | rfl | (simp; done) | (simp [*]; done), by repeat (first | exact Drawn0.refl _ | apply Drawn0.step)⟩
  · rw [if_neg c2] at H
    have c2b0 : decide (2147483647 < (l0.length : Int)) = false := decide_eq_false c2
    have c2b1 : decide (2147483647 < l0.length) = false := decide_eq_false (by omega)
    clear c2
    have H' := Aside0.mk H
    clear H
    go_enter Tryd.func4, Tryd.ntmps4
    go_wp2
    go_loopg [10] k (fun kq v10 w' => ∃ (x10_1 : Int), v10 = .int .i64 x10_1 ∧ Aside0 (laws_zzFits5.l0 kq l0 (l0.length : Int) x10_1 = some r) ∧ Aside0 (kq ≤ k) ∧ Drawn0 w w')
    case atStart => exact ⟨(0), (by first | rfl | (simp; done) | (simp [*]; done)), H', ⟨Nat.le_refl _⟩, by repeat (first | exact Drawn0.refl _ | apply Drawn0.step)⟩
    case round =>
      clear H'
      try clear c2
      try clear c2b0
      try clear c2b1
      try clear p2
      obtain ⟨x10_1, rfl, HA, HK1, ⟨m1, rfl⟩⟩ := hrel
      cases gk with
      | zero => exact absurd HA.out (by simp [laws_zzFits5.l0])
      | succ k1 =>
        have H := HA.out
        clear HA
        simp only [laws_zzFits5.l0] at H
        by_cases c3 : x10_1 < (l0.length : Int)
        · rw [if_pos c3] at H
          have c3b0 : decide (x10_1 < (l0.length : Int)) = true := decide_eq_true c3
          clear c3
          by_cases c4 : 0 ≤ x10_1
          · rw [if_pos c4] at H
            have c4b0 : decide (0 ≤ x10_1) = true := decide_eq_true c4
            clear c4
            by_cases c5 : x10_1 < (l0.length : Int)
            · rw [if_pos c5] at H
              have c5b0 : decide (x10_1 < (l0.length : Int)) = true := decide_eq_true c5
              clear c5
              by_cases c6 : ((rdOf ByteArray.empty l0 x10_1).size : Int) > 2147483647
              · rw [if_pos c6] at H
                have c6b0 : decide (2147483647 < ((rdOf ByteArray.empty l0 x10_1).size : Int)) = true := decide_eq_true c6
                have c6b1 : decide (2147483647 < (rdOf ByteArray.empty l0 x10_1).size) = true := decide_eq_true (by omega)
                clear c6
                obtain rfl := Option.some.inj H
                have p101 : 0 ≤ (x10_1 : Int) := of_decide_eq_true (by first | (with_reducible assumption) | assumption)
                have q101 : x10_1 < (l0.length : Int) := of_decide_eq_true (by first | (with_reducible assumption) | assumption)
                obtain ⟨ad101, e101, hx101_0⟩ := Kd.at_string HR0.out x10_1 p101 q101
                cases e101
                replace p101 := eq_true p101
                replace q101 := eq_true q101
                go_wp2
                go_ret
                exact ⟨by first | rfl | (simp; done) | (simp [*]; done), by repeat (first | exact Drawn0.refl _ | apply Drawn0.step)⟩
              · rw [if_neg c6] at H
                have c6b0 : decide (2147483647 < ((rdOf ByteArray.empty l0 x10_1).size : Int)) = false := decide_eq_false c6
                have c6b1 : decide (2147483647 < (rdOf ByteArray.empty l0 x10_1).size) = false := decide_eq_false (by omega)
                clear c6
                have H' := Aside0.mk H
                clear H
                have p101 : 0 ≤ (x10_1 : Int) := of_decide_eq_true (by first | (with_reducible assumption) | assumption)
                have q101 : x10_1 < (l0.length : Int) := of_decide_eq_true (by first | (with_reducible assumption) | assumption)
                obtain ⟨ad101, e101, hx101_0⟩ := Kd.at_string HR0.out x10_1 p101 q101
                cases e101
                replace p101 := eq_true p101
                replace q101 := eq_true q101
                go_wp2
                go_roundg k1
                case measure => have := HK1.out; omega
                case rel => exact ⟨(wrap64 (x10_1 + 1)), (by first | rfl | (simp; done) | (simp [*]; done)), H', ⟨by have := HK1.out; omega⟩, by repeat (first | exact Drawn0.refl _ | apply Drawn0.step)⟩
            · rw [if_neg c5] at H
              exact absurd H (by simp)
          · rw [if_neg c4] at H
            exact absurd H (by simp)
        · rw [if_neg c3] at H
          have c3b0 : decide (x10_1 < (l0.length : Int)) = false := decide_eq_false c3
          clear c3
          obtain rfl := Option.some.inj H
          go_wp2
          go_ret
          exact ⟨by first | rfl | (simp; done) | (simp [*]; done), by repeat (first | exact Drawn0.refl _ | apply Drawn0.step)⟩

/-! ### spec_scan_is: function 24 -/
def spec_scan_is.f (s0_0 : ByteArray) (s0_1 : Int) (s0_2 : Bool) (s0_3 : Bool) (s0_4 : Int) (a1 : ByteArray) : Option (Bool × ByteArray × Int × Bool × Bool × Int) := if (a1.size : Int) ≤ (wrap64 ((s0_0.size : Int) - s0_1)) then (if 0 ≤ s0_1 then (if s0_1 ≤ (wrap64 (s0_1 + (a1.size : Int))) then (if (wrap64 (s0_1 + (a1.size : Int))) ≤ (s0_0.size : Int) then (some (((s0_0.extract (s0_1 : Int).toNat ((wrap64 (s0_1 + (a1.size : Int))) : Int).toNat).toList == a1.toList), s0_0, s0_1, s0_2, s0_3, s0_4)) else (none)) else (none)) else (none)) else (some (false, s0_0, s0_1, s0_2, s0_3, s0_4))
set_option maxHeartbeats 8000000 in
set_option maxRecDepth 100000 in
theorem spec_scan_is.calls (g : Nat) (s0_0 : ByteArray) (s0_1 : Int) (s0_2 : Bool) (s0_3 : Bool) (s0_4 : Int) (a1 : ByteArray) (r1 : Bool) (r2 : ByteArray) (r3 : Int) (r4 : Bool) (r5 : Bool) (r6 : Int) (w0 w : World) (hI : IsS54 w0 w g s0_0 s0_1 s0_2 s0_3 s0_4) (hB : Below w0.heap.size w0 w) (h : spec_scan_is.f s0_0 s0_1 s0_2 s0_3 s0_4 a1 = some (r1, r2, r3, r4, r5, r6)) :
    Calls Tryd.prog 24 #[.pointer (some ⟨g, 0, none⟩), .string a1] w fun e w' => e = .returned (.bool r1) ∧ IsS54 w0 w' g r2 r3 r4 r5 r6 ∧ Below w0.heap.size w0 w' ∧ KeepBut w w' g none := by
  have HI0 := Aside0.mk hI
  have HK := Aside0.mk (KeepBut.refl w g none)
  have HL := Aside0.mk hB.size
  clear hI
  have HW0 := Aside0.mk hB.size
  have HB := Aside0.mk hB
  clear hB
  have H : (if (a1.size : Int) ≤ (wrap64 ((s0_0.size : Int) - s0_1)) then (if 0 ≤ s0_1 then (if s0_1 ≤ (wrap64 (s0_1 + (a1.size : Int))) then (if (wrap64 (s0_1 + (a1.size : Int))) ≤ (s0_0.size : Int) then (some (((s0_0.extract (s0_1 : Int).toNat ((wrap64 (s0_1 + (a1.size : Int))) : Int).toNat).toList == a1.toList), s0_0, s0_1, s0_2, s0_3, s0_4)) else (none)) else (none)) else (none)) else (some (false, s0_0, s0_1, s0_2, s0_3, s0_4))) = some (r1, r2, r3, r4, r5, r6) := h
  clear h
  by_cases c3 : (a1.size : Int) ≤ (wrap64 ((s0_0.size : Int) - s0_1))
  · rw [if_pos c3] at H
    have c3b0 : decide ((a1.size : Int) ≤ (wrap64 ((s0_0.size : Int) - s0_1))) = true := decide_eq_true c3
    clear c3
    by_cases c4 : 0 ≤ s0_1
    · rw [if_pos c4] at H
      have c4b0 := eq_true c4
      have c4b1 : decide (0 ≤ s0_1) = true := decide_eq_true c4
      clear c4
      by_cases c5 : s0_1 ≤ (wrap64 (s0_1 + (a1.size : Int)))
      · rw [if_pos c5] at H
        have c5b0 := eq_true c5
        have c5b1 : decide (s0_1 ≤ (wrap64 (s0_1 + (a1.size : Int)))) = true := decide_eq_true c5
        by_cases c6 : (wrap64 (s0_1 + (a1.size : Int))) ≤ (s0_0.size : Int)
        · rw [if_pos c6] at H
          have c6b0 := eq_true c6
          have c6b1 : decide ((wrap64 (s0_1 + (a1.size : Int))) ≤ (s0_0.size : Int)) = true := decide_eq_true c6
          simp only [Option.some.injEq, Prod.mk.injEq] at H
          obtain ⟨rfl, rfl, rfl, rfl, rfl, rfl⟩ := H
          obtain ⟨HGz7, hgz7⟩ := HI0.out
          have hcz7_0 := cellS54_0 HGz7
          have hcz7_1 := cellS54_1 HGz7
          have hcz7_2 := cellS54_2 HGz7
          have hcz7_3 := cellS54_3 HGz7
          have hcz7_4 := cellS54_4 HGz7
          have hfz7_0 := blk_frozen HGz7 0
          have hfz7_1 := blk_frozen HGz7 1
          have hfz7_2 := blk_frozen HGz7 2
          have hfz7_3 := blk_frozen HGz7 3
          have hfz7_4 := blk_frozen HGz7 4
          clear HGz7 hgz7
          go_enter Tryd.func24, Tryd.ntmps24
          go_wp2
          repeat (go_quiet (fail); try go_wp2)
          go_ret
          exact ⟨by first | rfl | (simp [errW_none, errW_some] <;> rfl) | (simp [*, errW_none, errW_some] <;> rfl), by repeat (first | (with_reducible first | exact HI0.out | apply IsS54.alloc | apply IsS54.drewN | apply IsS54.drew | apply IsS54.set_0 | apply IsS54.set_1 | apply IsS54.set_2 | apply IsS54.set_3 | apply IsS54.set_4) | exact HI0.out), by repeat (first | (with_reducible first | exact HB.out | apply below_alloc | apply pw_below_drewN | apply below_drew1 | refine below_set ?_ (IsS54.ge HI0.out)) | exact HB.out), by repeat (first | (with_reducible first | exact HK.out | apply KeepBut.set_ | apply keep_drewN | apply keep_drew | apply keep_alloc) | exact HK.out)⟩
        · rw [if_neg c6] at H
          exact absurd H (by simp)
      · rw [if_neg c5] at H
        exact absurd H (by simp)
    · rw [if_neg c4] at H
      exact absurd H (by simp)
  · rw [if_neg c3] at H
    have c3b0 : decide ((a1.size : Int) ≤ (wrap64 ((s0_0.size : Int) - s0_1))) = false := decide_eq_false c3
    clear c3
    simp only [Option.some.injEq, Prod.mk.injEq] at H
    obtain ⟨rfl, rfl, rfl, rfl, rfl, rfl⟩ := H
    obtain ⟨HGz8, hgz8⟩ := HI0.out
    have hcz8_0 := cellS54_0 HGz8
    have hcz8_1 := cellS54_1 HGz8
    have hcz8_2 := cellS54_2 HGz8
    have hcz8_3 := cellS54_3 HGz8
    have hcz8_4 := cellS54_4 HGz8
    have hfz8_0 := blk_frozen HGz8 0
    have hfz8_1 := blk_frozen HGz8 1
    have hfz8_2 := blk_frozen HGz8 2
    have hfz8_3 := blk_frozen HGz8 3
    have hfz8_4 := blk_frozen HGz8 4
    clear HGz8 hgz8
    go_enter Tryd.func24, Tryd.ntmps24
    go_wp2
    repeat (go_quiet (fail); try go_wp2)
    go_ret
    exact ⟨by first | rfl | (simp [errW_none, errW_some] <;> rfl) | (simp [*, errW_none, errW_some] <;> rfl), by repeat (first | (with_reducible first | exact HI0.out | apply IsS54.alloc | apply IsS54.drewN | apply IsS54.drew | apply IsS54.set_0 | apply IsS54.set_1 | apply IsS54.set_2 | apply IsS54.set_3 | apply IsS54.set_4) | exact HI0.out), by repeat (first | (with_reducible first | exact HB.out | apply below_alloc | apply pw_below_drewN | apply below_drew1 | refine below_set ?_ (IsS54.ge HI0.out)) | exact HB.out), by repeat (first | (with_reducible first | exact HK.out | apply KeepBut.set_ | apply keep_drewN | apply keep_drew | apply keep_alloc) | exact HK.out)⟩

/-! ### spec_Rune: function 44 -/
mutual
def spec_Rune.j0 : Nat → ByteArray → Int → Bool → Option (Int × Int)
  | 0, _, _, _ => none
  | k + 1, x0, x1, x19 => if x19 = true then (some (0, 0)) else (if 0 ≤ x1 then (if x1 < (x0.size : Int) then (if (wrap64 (bt x0 x1)) < 128 then (some (wrap64 (bt x0 x1), 1)) else (if (wrap64 (bt x0 x1)) ≥ 194 then (spec_Rune.j1 k x0 x1 (wrap64 (bt x0 x1)) 0 0 0 (decide ((wrap64 (bt x0 x1)) ≤ 223))) else (spec_Rune.j1 k x0 x1 (wrap64 (bt x0 x1)) 0 0 0 false))) else (none)) else (none))
def spec_Rune.j3 : Nat → ByteArray → Int → Int → Int → Int → Option (Int × Int)
  | 0, _, _, _, _, _ => none
  | k + 1, x0, x1, x7, x8, x9 => if x7 = 0 then (spec_Rune.j4 k x0 x1 x7 x8 x9 true) else (spec_Rune.j4 k x0 x1 x7 x8 x9 (decide ((wrap64 (x1 + x7)) > (x0.size : Int))))
def spec_Rune.j4 : Nat → ByteArray → Int → Int → Int → Int → Bool → Option (Int × Int)
  | 0, _, _, _, _, _, _ => none
  | k + 1, x0, x1, x7, x8, x9, x63 => if x63 = true then (some (0, 0)) else (spec_Rune.l0 k x0 x1 x7 x8 x9 1)
def spec_Rune.l0 : Nat → ByteArray → Int → Int → Int → Int → Int → Option (Int × Int)
  | 0, _, _, _, _, _, _ => none
  | k + 1, x0, x1, x7, x8, x9, x10 => if x10 < x7 then (if 0 ≤ (wrap64 (x1 + x10)) then (if (wrap64 (x1 + x10)) < (x0.size : Int) then (if (Go.bits .and .i64 (wrap64 (bt x0 (wrap64 (x1 + x10)))) 192) = 128 then (spec_Rune.l0 k x0 x1 x7 (Go.bits .or .i64 (wrap64 (x8 * 64)) (Go.bits .and .i64 (wrap64 (bt x0 (wrap64 (x1 + x10)))) 63)) x9 (wrap64 (x10 + 1))) else (some (0, 0))) else (none)) else (none)) else (if x8 < x9 then (some (0, 0)) else (if x8 > 1114111 then (some (0, 0)) else (if x8 ≥ 55296 then (if x8 ≤ 57343 then (some (0, 0)) else (some (x8, x7))) else (some (x8, x7)))))
def spec_Rune.j1 : Nat → ByteArray → Int → Int → Int → Int → Int → Bool → Option (Int × Int)
  | 0, _, _, _, _, _, _, _ => none
  | k + 1, x0, x1, x6, x7, x8, x9, x27 => if x27 = true then (spec_Rune.j3 k x0 x1 2 (Go.bits .and .i64 x6 31) 128) else (if x6 ≥ 224 then (spec_Rune.j2 k x0 x1 x6 x7 x8 x9 (decide (x6 ≤ 239))) else (spec_Rune.j2 k x0 x1 x6 x7 x8 x9 false))
def spec_Rune.j2 : Nat → ByteArray → Int → Int → Int → Int → Int → Bool → Option (Int × Int)
  | 0, _, _, _, _, _, _, _ => none
  | k + 1, x0, x1, x6, x7, x8, x9, x36 => if x36 = true then (spec_Rune.j3 k x0 x1 3 (Go.bits .and .i64 x6 15) 2048) else (if x6 ≥ 240 then (if x6 ≤ 244 then (spec_Rune.j3 k x0 x1 4 (Go.bits .and .i64 x6 7) 65536) else (spec_Rune.j3 k x0 x1 x7 x8 x9)) else (spec_Rune.j3 k x0 x1 x7 x8 x9))
end
def spec_Rune.f (k : Nat) (a0 : ByteArray) (a1 : Int) : Option (Int × Int) := if a1 < 0 then (spec_Rune.j0 k a0 a1 true) else (spec_Rune.j0 k a0 a1 (decide (a1 ≥ (a0.size : Int))))
theorem spec_Rune.mono_l : ∀ k, (∀ y0 y1 y2, LeO (spec_Rune.j0 k y0 y1 y2) (spec_Rune.j0 (k + 1) y0 y1 y2)) ∧ (∀ y0 y1 y2 y3 y4, LeO (spec_Rune.j3 k y0 y1 y2 y3 y4) (spec_Rune.j3 (k + 1) y0 y1 y2 y3 y4)) ∧ (∀ y0 y1 y2 y3 y4 y5, LeO (spec_Rune.j4 k y0 y1 y2 y3 y4 y5) (spec_Rune.j4 (k + 1) y0 y1 y2 y3 y4 y5)) ∧ (∀ y0 y1 y2 y3 y4 y5, LeO (spec_Rune.l0 k y0 y1 y2 y3 y4 y5) (spec_Rune.l0 (k + 1) y0 y1 y2 y3 y4 y5)) ∧ (∀ y0 y1 y2 y3 y4 y5 y6, LeO (spec_Rune.j1 k y0 y1 y2 y3 y4 y5 y6) (spec_Rune.j1 (k + 1) y0 y1 y2 y3 y4 y5 y6)) ∧ (∀ y0 y1 y2 y3 y4 y5 y6, LeO (spec_Rune.j2 k y0 y1 y2 y3 y4 y5 y6) (spec_Rune.j2 (k + 1) y0 y1 y2 y3 y4 y5 y6))
  | 0 => ⟨fun _ _ _ r h => by simp [spec_Rune.j0] at h, fun _ _ _ _ _ r h => by simp [spec_Rune.j3] at h, fun _ _ _ _ _ _ r h => by simp [spec_Rune.j4] at h, fun _ _ _ _ _ _ r h => by simp [spec_Rune.l0] at h, fun _ _ _ _ _ _ _ r h => by simp [spec_Rune.j1] at h, fun _ _ _ _ _ _ _ r h => by simp [spec_Rune.j2] at h⟩
  | k + 1 => by
    obtain ⟨ih0, ih1, ih2, ih3, ih4, ih5⟩ := spec_Rune.mono_l k
    refine ⟨?_, ?_, ?_, ?_, ?_, ?_⟩
    · intro y0 y1 y2
      unfold spec_Rune.j0
      repeat' first
      | (with_reducible exact ih0 _ _ _)
      | (with_reducible exact ih1 _ _ _ _ _)
      | (with_reducible exact ih2 _ _ _ _ _ _)
      | (with_reducible exact ih3 _ _ _ _ _ _)
      | (with_reducible exact ih4 _ _ _ _ _ _ _)
      | (with_reducible exact ih5 _ _ _ _ _ _ _)
      | (with_reducible exact LeO.refl _)
      | (with_reducible exact LeO.none _)
      | (with_reducible refine LeO.ite ?_ ?_)
      | (with_reducible refine LeO.bind ?_ (fun _ => ?_))
      | exact ih0 _ _ _
      | exact ih1 _ _ _ _ _
      | exact ih2 _ _ _ _ _ _
      | exact ih3 _ _ _ _ _ _
      | exact ih4 _ _ _ _ _ _ _
      | exact ih5 _ _ _ _ _ _ _
      | exact LeO.none _
      | refine LeO.ite ?_ ?_
      | refine LeO.bind ?_ (fun _ => ?_)
    · intro y0 y1 y2 y3 y4
      unfold spec_Rune.j3
      repeat' first
      | (with_reducible exact ih0 _ _ _)
      | (with_reducible exact ih1 _ _ _ _ _)
      | (with_reducible exact ih2 _ _ _ _ _ _)
      | (with_reducible exact ih3 _ _ _ _ _ _)
      | (with_reducible exact ih4 _ _ _ _ _ _ _)
      | (with_reducible exact ih5 _ _ _ _ _ _ _)
      | (with_reducible exact LeO.refl _)
      | (with_reducible exact LeO.none _)
      | (with_reducible refine LeO.ite ?_ ?_)
      | (with_reducible refine LeO.bind ?_ (fun _ => ?_))
      | exact ih0 _ _ _
      | exact ih1 _ _ _ _ _
      | exact ih2 _ _ _ _ _ _
      | exact ih3 _ _ _ _ _ _
      | exact ih4 _ _ _ _ _ _ _
      | exact ih5 _ _ _ _ _ _ _
      | exact LeO.none _
      | refine LeO.ite ?_ ?_
      | refine LeO.bind ?_ (fun _ => ?_)
    · intro y0 y1 y2 y3 y4 y5
      unfold spec_Rune.j4
      repeat' first
      | (with_reducible exact ih0 _ _ _)
      | (with_reducible exact ih1 _ _ _ _ _)
      | (with_reducible exact ih2 _ _ _ _ _ _)
      | (with_reducible exact ih3 _ _ _ _ _ _)
      | (with_reducible exact ih4 _ _ _ _ _ _ _)
      | (with_reducible exact ih5 _ _ _ _ _ _ _)
      | (with_reducible exact LeO.refl _)
      | (with_reducible exact LeO.none _)
      | (with_reducible refine LeO.ite ?_ ?_)
      | (with_reducible refine LeO.bind ?_ (fun _ => ?_))
      | exact ih0 _ _ _
      | exact ih1 _ _ _ _ _
      | exact ih2 _ _ _ _ _ _
      | exact ih3 _ _ _ _ _ _
      | exact ih4 _ _ _ _ _ _ _
      | exact ih5 _ _ _ _ _ _ _
      | exact LeO.none _
      | refine LeO.ite ?_ ?_
      | refine LeO.bind ?_ (fun _ => ?_)
    · intro y0 y1 y2 y3 y4 y5
      unfold spec_Rune.l0
      repeat' first
      | (with_reducible exact ih0 _ _ _)
      | (with_reducible exact ih1 _ _ _ _ _)
      | (with_reducible exact ih2 _ _ _ _ _ _)
      | (with_reducible exact ih3 _ _ _ _ _ _)
      | (with_reducible exact ih4 _ _ _ _ _ _ _)
      | (with_reducible exact ih5 _ _ _ _ _ _ _)
      | (with_reducible exact LeO.refl _)
      | (with_reducible exact LeO.none _)
      | (with_reducible refine LeO.ite ?_ ?_)
      | (with_reducible refine LeO.bind ?_ (fun _ => ?_))
      | exact ih0 _ _ _
      | exact ih1 _ _ _ _ _
      | exact ih2 _ _ _ _ _ _
      | exact ih3 _ _ _ _ _ _
      | exact ih4 _ _ _ _ _ _ _
      | exact ih5 _ _ _ _ _ _ _
      | exact LeO.none _
      | refine LeO.ite ?_ ?_
      | refine LeO.bind ?_ (fun _ => ?_)
    · intro y0 y1 y2 y3 y4 y5 y6
      unfold spec_Rune.j1
      repeat' first
      | (with_reducible exact ih0 _ _ _)
      | (with_reducible exact ih1 _ _ _ _ _)
      | (with_reducible exact ih2 _ _ _ _ _ _)
      | (with_reducible exact ih3 _ _ _ _ _ _)
      | (with_reducible exact ih4 _ _ _ _ _ _ _)
      | (with_reducible exact ih5 _ _ _ _ _ _ _)
      | (with_reducible exact LeO.refl _)
      | (with_reducible exact LeO.none _)
      | (with_reducible refine LeO.ite ?_ ?_)
      | (with_reducible refine LeO.bind ?_ (fun _ => ?_))
      | exact ih0 _ _ _
      | exact ih1 _ _ _ _ _
      | exact ih2 _ _ _ _ _ _
      | exact ih3 _ _ _ _ _ _
      | exact ih4 _ _ _ _ _ _ _
      | exact ih5 _ _ _ _ _ _ _
      | exact LeO.none _
      | refine LeO.ite ?_ ?_
      | refine LeO.bind ?_ (fun _ => ?_)
    · intro y0 y1 y2 y3 y4 y5 y6
      unfold spec_Rune.j2
      repeat' first
      | (with_reducible exact ih0 _ _ _)
      | (with_reducible exact ih1 _ _ _ _ _)
      | (with_reducible exact ih2 _ _ _ _ _ _)
      | (with_reducible exact ih3 _ _ _ _ _ _)
      | (with_reducible exact ih4 _ _ _ _ _ _ _)
      | (with_reducible exact ih5 _ _ _ _ _ _ _)
      | (with_reducible exact LeO.refl _)
      | (with_reducible exact LeO.none _)
      | (with_reducible refine LeO.ite ?_ ?_)
      | (with_reducible refine LeO.bind ?_ (fun _ => ?_))
      | exact ih0 _ _ _
      | exact ih1 _ _ _ _ _
      | exact ih2 _ _ _ _ _ _
      | exact ih3 _ _ _ _ _ _
      | exact ih4 _ _ _ _ _ _ _
      | exact ih5 _ _ _ _ _ _ _
      | exact LeO.none _
      | refine LeO.ite ?_ ?_
      | refine LeO.bind ?_ (fun _ => ?_)
theorem spec_Rune.mono : ∀ a0 a1 k, LeO (spec_Rune.f k a0 a1) (spec_Rune.f (k + 1) a0 a1) := by
  intro a0 a1 k
  obtain ⟨ih0, ih1, ih2, ih3, ih4, ih5⟩ := spec_Rune.mono_l k
  unfold spec_Rune.f
  repeat' first
      | (with_reducible exact ih0 _ _ _)
      | (with_reducible exact ih1 _ _ _ _ _)
      | (with_reducible exact ih2 _ _ _ _ _ _)
      | (with_reducible exact ih3 _ _ _ _ _ _)
      | (with_reducible exact ih4 _ _ _ _ _ _ _)
      | (with_reducible exact ih5 _ _ _ _ _ _ _)
      | (with_reducible exact LeO.refl _)
      | (with_reducible exact LeO.none _)
      | (with_reducible refine LeO.ite ?_ ?_)
      | (with_reducible refine LeO.bind ?_ (fun _ => ?_))
      | exact ih0 _ _ _
      | exact ih1 _ _ _ _ _
      | exact ih2 _ _ _ _ _ _
      | exact ih3 _ _ _ _ _ _
      | exact ih4 _ _ _ _ _ _ _
      | exact ih5 _ _ _ _ _ _ _
      | exact LeO.none _
      | refine LeO.ite ?_ ?_
      | refine LeO.bind ?_ (fun _ => ?_)
set_option maxHeartbeats 8000000 in
set_option maxRecDepth 100000 in
theorem spec_Rune.calls (k : Nat) (a0 : ByteArray) (a1 : Int) (r1 : Int) (r2 : Int) (w : World) (h : spec_Rune.f k a0 a1 = some (r1, r2)) :
    Calls Tryd.prog 44 #[.string a0, .int .i64 a1] w fun e w' => e = .returned (.tuple #[.int .i64 r1, .int .i64 r2]) ∧ Drawn0 w w' := by
  have H : (if a1 < 0 then (spec_Rune.j0 k a0 a1 true) else (spec_Rune.j0 k a0 a1 (decide (a1 ≥ (a0.size : Int))))) = some (r1, r2) := h
  clear h
  have HC3 := Aside0.mk H
  clear H
  go_enter Tryd.func44, Tryd.ntmps44
  go_upto_region 1 with (fail)
  go_cut [19] (fun v19 wc => ∃ (kq : Nat) (x19_2 : Bool), v19 = .bool x19_2 ∧ Aside0 (spec_Rune.j0 kq a0 a1 x19_2 = some (r1, r2)) ∧ Aside0 (kq ≤ k) ∧ Drawn0 w wc)
  case first =>
    have H := HC3.out
    clear HC3
    by_cases c4 : a1 < 0
    · rw [if_pos c4] at H
      have c4b0 : decide (a1 < 0) = true := decide_eq_true c4
      clear c4
      (first | rw [c4b0] | (simp only [i64_w, i32_w]; rw [c4b0]) | skip)
      have H' := Aside0.mk H
      clear H
      go_wp2
      go_meet
      case rel => exact ⟨_, (true), (by first | rfl | (simp; done) | (simp [*]; done)), H', ⟨by first | omega | exact Nat.le_refl _⟩, by repeat (first | exact Drawn0.refl _ | apply Drawn0.step)⟩
    · rw [if_neg c4] at H
      have c4b0 : decide (a1 < 0) = false := decide_eq_false c4
      clear c4
      (first | rw [c4b0] | (simp only [i64_w, i32_w]; rw [c4b0]) | skip)
      have H' := Aside0.mk H
      clear H
      go_wp2
      go_meet
      case rel => exact ⟨_, (decide (a1 ≥ (a0.size : Int))), (by first | rfl | (simp; done) | (simp [*]; done)), H', ⟨by first | omega | exact Nat.le_refl _⟩, by repeat (first | exact Drawn0.refl _ | apply Drawn0.step)⟩
  case rest =>
    clear HC3
    try clear p2
    try clear c4
    try clear c4b0
    obtain ⟨kq, x19_2, rfl, HA, HJ2, ⟨mc2, rfl⟩⟩ := hcut
    cases kq with
    | zero => exact absurd HA.out (by simp [spec_Rune.j0])
    | succ kj2 =>
      have H := HA.out
      clear HA
      simp only [spec_Rune.j0] at H
      by_cases c5 : x19_2 = true
      · subst c5
        have H1 : (some (0, 0)) = some (r1, r2) := by rw [if_pos rfl] at H; exact H
        clear H
        have H := H1
        clear H1
        simp only [Option.some.injEq, Prod.mk.injEq] at H
        obtain ⟨rfl, rfl⟩ := H
        go_wp2
        go_ret2
        exact ⟨by first | rfl | (simp; done) | (simp [*]; done), by repeat (first | exact Drawn0.refl _ | apply Drawn0.step)⟩
      · replace c5 := Bool.eq_false_iff.mpr c5
        subst c5
        have H1 : (if 0 ≤ a1 then (if a1 < (a0.size : Int) then (if (wrap64 (bt a0 a1)) < 128 then (some (wrap64 (bt a0 a1), 1)) else (if (wrap64 (bt a0 a1)) ≥ 194 then (spec_Rune.j1 kj2 a0 a1 (wrap64 (bt a0 a1)) 0 0 0 (decide ((wrap64 (bt a0 a1)) ≤ 223))) else (spec_Rune.j1 kj2 a0 a1 (wrap64 (bt a0 a1)) 0 0 0 false))) else (none)) else (none)) = some (r1, r2) := by rw [if_neg (show ¬ (false = true) by decide)] at H; exact H
        clear H
        have H := H1
        clear H1
        by_cases c6 : 0 ≤ a1
        · rw [if_pos c6] at H
          have c6b0 : decide (0 ≤ a1) = true := decide_eq_true c6
          clear c6
          by_cases c7 : a1 < (a0.size : Int)
          · rw [if_pos c7] at H
            have c7b0 : decide (a1 < (a0.size : Int)) = true := decide_eq_true c7
            clear c7
            by_cases c9 : (wrap64 (bt a0 a1)) < 128
            · rw [if_pos c9] at H
              have c9b0 : decide ((wrap64 (bt a0 a1)) < 128) = true := decide_eq_true c9
              clear c9
              simp only [Option.some.injEq, Prod.mk.injEq] at H
              obtain ⟨rfl, rfl⟩ := H
              have p8 : 0 ≤ (a1 : Int) := of_decide_eq_true (by first | (with_reducible assumption) | assumption)
              have q8 : a1 < (a0.size : Int) := of_decide_eq_true (by first | (with_reducible assumption) | assumption)
              have hx8 := bt_at a0 a1
              replace p8 := eq_true p8
              replace q8 := eq_true q8
              go_wp2
              go_ret2
              exact ⟨by first | rfl | (simp; done) | (simp [*]; done), by repeat (first | exact Drawn0.refl _ | apply Drawn0.step)⟩
            · rw [if_neg c9] at H
              have c9b0 : decide ((wrap64 (bt a0 a1)) < 128) = false := decide_eq_false c9
              clear c9
              have HC10 := Aside0.mk H
              clear H
              have p8 : 0 ≤ (a1 : Int) := of_decide_eq_true (by first | (with_reducible assumption) | assumption)
              have q8 : a1 < (a0.size : Int) := of_decide_eq_true (by first | (with_reducible assumption) | assumption)
              have hx8 := bt_at a0 a1
              replace p8 := eq_true p8
              replace q8 := eq_true q8
              go_upto_block 0 with (fail)
              go_cut [7, 8, 9] (fun v7 v8 v9 wc => ∃ (kq : Nat) (x7_9 : Int) (x8_9 : Int) (x9_9 : Int), v7 = .int .i64 x7_9 ∧ v8 = .int .i64 x8_9 ∧ v9 = .int .i64 x9_9 ∧ Aside0 (spec_Rune.j3 kq a0 a1 x7_9 x8_9 x9_9 = some (r1, r2)) ∧ Aside0 (kq ≤ kj2) ∧ Drawn0 w wc)
              case first =>
                have H := HC10.out
                clear HC10
                have HC11 := Aside0.mk H
                clear H
                go_upto_region 7 with (fail)
                go_cut [27] (fun v27 wc => ∃ (kq : Nat) (x27_10 : Bool), v27 = .bool x27_10 ∧ Aside0 (spec_Rune.j1 kq a0 a1 (wrap64 (bt a0 a1)) 0 0 0 x27_10 = some (r1, r2)) ∧ Aside0 (kq ≤ kj2) ∧ Drawn0 w wc)
                case first =>
                  have H := HC11.out
                  clear HC11
                  by_cases c12 : (wrap64 (bt a0 a1)) ≥ 194
                  · rw [if_pos c12] at H
                    have c12b0 : decide (194 ≤ (wrap64 (bt a0 a1))) = true := decide_eq_true c12
                    clear c12
                    (first | rw [c12b0] | (simp only [i64_w, i32_w]; rw [c12b0]) | skip)
                    have H' := Aside0.mk H
                    clear H
                    go_wp2
                    go_meet
                    case rel => exact ⟨_, (decide ((wrap64 (bt a0 a1)) ≤ 223)), (by first | rfl | (simp; done) | (simp [*]; done)), H', ⟨by have := HJ2.out; first | omega | exact Nat.le_refl _⟩, by repeat (first | exact Drawn0.refl _ | apply Drawn0.step)⟩
                  · rw [if_neg c12] at H
                    have c12b0 : decide (194 ≤ (wrap64 (bt a0 a1))) = false := decide_eq_false c12
                    clear c12
                    (first | rw [c12b0] | (simp only [i64_w, i32_w]; rw [c12b0]) | skip)
                    have H' := Aside0.mk H
                    clear H
                    go_wp2
                    go_meet
                    case rel => exact ⟨_, (false), (by first | rfl | (simp; done) | (simp [*]; done)), H', ⟨by have := HJ2.out; first | omega | exact Nat.le_refl _⟩, by repeat (first | exact Drawn0.refl _ | apply Drawn0.step)⟩
                case rest =>
                  clear HC11
                  try clear c1
                  try clear c2
                  try clear p2
                  try clear c4
                  try clear c4b0
                  try clear c5
                  try clear c6
                  try clear c6b0
                  try clear p6
                  try clear c7
                  try clear c7b0
                  try clear p8
                  try clear q8
                  try clear hx8
                  try clear c9
                  try clear c9b0
                  try clear c12
                  try clear c12b0
                  try clear p2
                  try clear p8
                  try clear q8
                  obtain ⟨kq, x27_10, rfl, HA, HJ10, ⟨mc10, rfl⟩⟩ := hcut
                  cases kq with
                  | zero => exact absurd HA.out (by simp [spec_Rune.j1])
                  | succ kj10 =>
                    have H := HA.out
                    clear HA
                    simp only [spec_Rune.j1] at H
                    by_cases c13 : x27_10 = true
                    · subst c13
                      have H1 : (spec_Rune.j3 kj10 a0 a1 2 (Go.bits .and .i64 (wrap64 (bt a0 a1)) 31) 128) = some (r1, r2) := by rw [if_pos rfl] at H; exact H
                      clear H
                      have H := H1
                      clear H1
                      have H' := Aside0.mk H
                      clear H
                      go_wp2
                      go_meet
                      case rel => exact ⟨_, (2), (Go.bits .and .i64 (wrap64 (bt a0 a1)) 31), (128), (by first | rfl | (simp; done) | (simp [*]; done)), (by first | rfl | (simp; done) | (simp [*]; done)), (by first | rfl | (simp; done) | (simp [*]; done)), H', ⟨by have := HJ2.out; have := HJ10.out; first | omega | exact Nat.le_refl _⟩, by repeat (first | exact Drawn0.refl _ | apply Drawn0.step)⟩
                    · replace c13 := Bool.eq_false_iff.mpr c13
                      subst c13
                      have H1 : (if (wrap64 (bt a0 a1)) ≥ 224 then (spec_Rune.j2 kj10 a0 a1 (wrap64 (bt a0 a1)) 0 0 0 (decide ((wrap64 (bt a0 a1)) ≤ 239))) else (spec_Rune.j2 kj10 a0 a1 (wrap64 (bt a0 a1)) 0 0 0 false)) = some (r1, r2) := by rw [if_neg (show ¬ (false = true) by decide)] at H; exact H
                      clear H
                      have H := H1
                      clear H1
                      have HC14 := Aside0.mk H
                      clear H
                      go_upto_region 9 with (fail)
                      go_cut [36] (fun v36 wc => ∃ (kq : Nat) (x36_13 : Bool), v36 = .bool x36_13 ∧ Aside0 (spec_Rune.j2 kq a0 a1 (wrap64 (bt a0 a1)) 0 0 0 x36_13 = some (r1, r2)) ∧ Aside0 (kq ≤ kj10) ∧ Drawn0 w wc)
                      case first =>
                        have H := HC14.out
                        clear HC14
                        by_cases c15 : (wrap64 (bt a0 a1)) ≥ 224
                        · rw [if_pos c15] at H
                          have c15b0 : decide (224 ≤ (wrap64 (bt a0 a1))) = true := decide_eq_true c15
                          clear c15
                          (first | rw [c15b0] | (simp only [i64_w, i32_w]; rw [c15b0]) | skip)
                          have H' := Aside0.mk H
                          clear H
                          go_wp2
                          go_meet
                          case rel => exact ⟨_, (decide ((wrap64 (bt a0 a1)) ≤ 239)), (by first | rfl | (simp; done) | (simp [*]; done)), H', ⟨by have := HJ2.out; have := HJ10.out; first | omega | exact Nat.le_refl _⟩, by repeat (first | exact Drawn0.refl _ | apply Drawn0.step)⟩
                        · rw [if_neg c15] at H
                          have c15b0 : decide (224 ≤ (wrap64 (bt a0 a1))) = false := decide_eq_false c15
                          clear c15
                          (first | rw [c15b0] | (simp only [i64_w, i32_w]; rw [c15b0]) | skip)
                          have H' := Aside0.mk H
                          clear H
                          go_wp2
                          go_meet
                          case rel => exact ⟨_, (false), (by first | rfl | (simp; done) | (simp [*]; done)), H', ⟨by have := HJ2.out; have := HJ10.out; first | omega | exact Nat.le_refl _⟩, by repeat (first | exact Drawn0.refl _ | apply Drawn0.step)⟩
                      case rest =>
                        clear HC14
                        try clear c1
                        try clear c2
                        try clear p2
                        try clear c4
                        try clear c4b0
                        try clear c5
                        try clear c6
                        try clear c6b0
                        try clear p6
                        try clear c7
                        try clear c7b0
                        try clear p8
                        try clear q8
                        try clear hx8
                        try clear c9
                        try clear c9b0
                        try clear c10
                        try clear c12
                        try clear c12b0
                        try clear c13
                        try clear c15
                        try clear c15b0
                        try clear p2
                        try clear p6
                        try clear p8
                        try clear q8
                        obtain ⟨kq, x36_13, rfl, HA, HJ13, ⟨mc13, rfl⟩⟩ := hcut
                        cases kq with
                        | zero => exact absurd HA.out (by simp [spec_Rune.j2])
                        | succ kj13 =>
                          have H := HA.out
                          clear HA
                          simp only [spec_Rune.j2] at H
                          by_cases c16 : x36_13 = true
                          · subst c16
                            have H1 : (spec_Rune.j3 kj13 a0 a1 3 (Go.bits .and .i64 (wrap64 (bt a0 a1)) 15) 2048) = some (r1, r2) := by rw [if_pos rfl] at H; exact H
                            clear H
                            have H := H1
                            clear H1
                            have H' := Aside0.mk H
                            clear H
                            go_wp2
                            go_meet
                            case rel => exact ⟨_, (3), (Go.bits .and .i64 (wrap64 (bt a0 a1)) 15), (2048), (by first | rfl | (simp; done) | (simp [*]; done)), (by first | rfl | (simp; done) | (simp [*]; done)), (by first | rfl | (simp; done) | (simp [*]; done)), H', ⟨by have := HJ2.out; have := HJ10.out; have := HJ13.out; first | omega | exact Nat.le_refl _⟩, by repeat (first | exact Drawn0.refl _ | apply Drawn0.step)⟩
                          · replace c16 := Bool.eq_false_iff.mpr c16
                            subst c16
                            have H1 : (if (wrap64 (bt a0 a1)) ≥ 240 then (if (wrap64 (bt a0 a1)) ≤ 244 then (spec_Rune.j3 kj13 a0 a1 4 (Go.bits .and .i64 (wrap64 (bt a0 a1)) 7) 65536) else (spec_Rune.j3 kj13 a0 a1 0 0 0)) else (spec_Rune.j3 kj13 a0 a1 0 0 0)) = some (r1, r2) := by rw [if_neg (show ¬ (false = true) by decide)] at H; exact H
                            clear H
                            have H := H1
                            clear H1
                            by_cases c17 : (wrap64 (bt a0 a1)) ≥ 240
                            · rw [if_pos c17] at H
                              have c17b0 : decide (240 ≤ (wrap64 (bt a0 a1))) = true := decide_eq_true c17
                              clear c17
                              by_cases c18 : (wrap64 (bt a0 a1)) ≤ 244
                              · rw [if_pos c18] at H
                                have c18b0 : decide ((wrap64 (bt a0 a1)) ≤ 244) = true := decide_eq_true c18
                                clear c18
                                have H' := Aside0.mk H
                                clear H
                                go_wp2
                                go_meet
                                case rel => exact ⟨_, (4), (Go.bits .and .i64 (wrap64 (bt a0 a1)) 7), (65536), (by first | rfl | (simp; done) | (simp [*]; done)), (by first | rfl | (simp; done) | (simp [*]; done)), (by first | rfl | (simp; done) | (simp [*]; done)), H', ⟨by have := HJ2.out; have := HJ10.out; have := HJ13.out; first | omega | exact Nat.le_refl _⟩, by repeat (first | exact Drawn0.refl _ | apply Drawn0.step)⟩
                              · rw [if_neg c18] at H
                                have c18b0 : decide ((wrap64 (bt a0 a1)) ≤ 244) = false := decide_eq_false c18
                                clear c18
                                have H' := Aside0.mk H
                                clear H
                                go_wp2
                                go_meet
                                case rel => exact ⟨_, (0), (0), (0), (by first | rfl | (simp; done) | (simp [*]; done)), (by first | rfl | (simp; done) | (simp [*]; done)), (by first | rfl | (simp; done) | (simp [*]; done)), H', ⟨by have := HJ2.out; have := HJ10.out; have := HJ13.out; first | omega | exact Nat.le_refl _⟩, by repeat (first | exact Drawn0.refl _ | apply Drawn0.step)⟩
                            · rw [if_neg c17] at H
                              have c17b0 : decide (240 ≤ (wrap64 (bt a0 a1))) = false := decide_eq_false c17
                              clear c17
                              have H' := Aside0.mk H
                              clear H
                              go_wp2
                              go_meet
                              case rel => exact ⟨_, (0), (0), (0), (by first | rfl | (simp; done) | (simp [*]; done)), (by first | rfl | (simp; done) | (simp [*]; done)), (by first | rfl | (simp; done) | (simp [*]; done)), H', ⟨by have := HJ2.out; have := HJ10.out; have := HJ13.out; first | omega | exact Nat.le_refl _⟩, by repeat (first | exact Drawn0.refl _ | apply Drawn0.step)⟩
              case rest =>
                clear HC10
                try clear c1
                try clear c2
                try clear p2
                try clear c4
                try clear c4b0
                try clear c5
                try clear c6
                try clear c6b0
                try clear p6
                try clear c7
                try clear c7b0
                try clear p8
                try clear q8
                try clear hx8
                try clear c9
                try clear c9b0
                try clear c10
                try clear c12
                try clear c12b0
                try clear c13
                try clear c15
                try clear c15b0
                try clear c16
                try clear c17
                try clear c17b0
                try clear c18
                try clear c18b0
                try clear p2
                try clear p6
                try clear p8
                try clear q8
                obtain ⟨kq, x7_9, x8_9, x9_9, rfl, rfl, rfl, HA, HJ9, ⟨mc9, rfl⟩⟩ := hcut
                cases kq with
                | zero => exact absurd HA.out (by simp [spec_Rune.j3])
                | succ kj9 =>
                  have H := HA.out
                  clear HA
                  simp only [spec_Rune.j3] at H
                  have HC19 := Aside0.mk H
                  clear H
                  go_upto_region 13 with (fail)
                  go_cut [63] (fun v63 wc => ∃ (kq : Nat) (x63_18 : Bool), v63 = .bool x63_18 ∧ Aside0 (spec_Rune.j4 kq a0 a1 x7_9 x8_9 x9_9 x63_18 = some (r1, r2)) ∧ Aside0 (kq ≤ kj9) ∧ Drawn0 w wc)
                  case first =>
                    have H := HC19.out
                    clear HC19
                    by_cases c20 : x7_9 = 0
                    · rw [if_pos c20] at H
                      have c20b0 : (x7_9 == 0) = true := beq_iff_eq.mpr c20
                      have c20b1 : (x7_9 != 0) = false := bne_eq_false_iff_eq.mpr c20
                      clear c20
                      (first | rw [c20b0] | (simp only [i64_w, i32_w]; rw [c20b0]) | skip)
                      have H' := Aside0.mk H
                      clear H
                      go_wp2
                      go_meet
                      case rel => exact ⟨_, (true), (by first | rfl | (simp; done) | (simp [*]; done)), H', ⟨by have := HJ2.out; have := HJ9.out; first | omega | exact Nat.le_refl _⟩, by repeat (first | exact Drawn0.refl _ | apply Drawn0.step)⟩
                    · rw [if_neg c20] at H
                      have c20b0 : (x7_9 == 0) = false := beq_eq_false_iff_ne.mpr c20
                      have c20b1 : (x7_9 != 0) = true := bne_iff_ne.mpr c20
                      (first | rw [c20b0] | (simp only [i64_w, i32_w]; rw [c20b0]) | skip)
                      have H' := Aside0.mk H
                      clear H
                      go_wp2
                      go_meet
                      case rel => exact ⟨_, (decide ((wrap64 (a1 + x7_9)) > (a0.size : Int))), (by first | rfl | (simp; done) | (simp [*]; done)), H', ⟨by have := HJ2.out; have := HJ9.out; first | omega | exact Nat.le_refl _⟩, by repeat (first | exact Drawn0.refl _ | apply Drawn0.step)⟩
                  case rest =>
                    clear HC19
                    try clear c1
                    try clear c2
                    try clear p2
                    try clear c4
                    try clear c4b0
                    try clear c5
                    try clear c6
                    try clear c6b0
                    try clear p6
                    try clear c7
                    try clear c7b0
                    try clear p8
                    try clear q8
                    try clear hx8
                    try clear c9
                    try clear c9b0
                    try clear c10
                    try clear c12
                    try clear c12b0
                    try clear c13
                    try clear c15
                    try clear c15b0
                    try clear c16
                    try clear c17
                    try clear c17b0
                    try clear c18
                    try clear c18b0
                    try clear c20
                    try clear c20b0
                    try clear c20b1
                    try clear p2
                    try clear p6
                    try clear p8
                    try clear q8
                    obtain ⟨kq, x63_18, rfl, HA, HJ18, ⟨mc18, rfl⟩⟩ := hcut
                    cases kq with
                    | zero => exact absurd HA.out (by simp [spec_Rune.j4])
                    | succ kj18 =>
                      have H := HA.out
                      clear HA
                      simp only [spec_Rune.j4] at H
                      by_cases c21 : x63_18 = true
                      · subst c21
                        have H1 : (some (0, 0)) = some (r1, r2) := by rw [if_pos rfl] at H; exact H
                        clear H
                        have H := H1
                        clear H1
                        simp only [Option.some.injEq, Prod.mk.injEq] at H
                        obtain ⟨rfl, rfl⟩ := H
                        go_wp2
                        go_ret2
                        exact ⟨by first | rfl | (simp; done) | (simp [*]; done), by repeat (first | exact Drawn0.refl _ | apply Drawn0.step)⟩
                      · replace c21 := Bool.eq_false_iff.mpr c21
                        subst c21
                        have H1 : (spec_Rune.l0 kj18 a0 a1 x7_9 x8_9 x9_9 1) = some (r1, r2) := by rw [if_neg (show ¬ (false = true) by decide)] at H; exact H
                        clear H
                        have H := H1
                        clear H1
                        have H' := Aside0.mk H
                        clear H
                        go_wp2
                        go_loopg [8, 10] kj18 (fun kq v8 v10 w' => ∃ (x8_4 : Int) (x10_4 : Int), v8 = .int .i64 x8_4 ∧ v10 = .int .i64 x10_4 ∧ Aside0 (spec_Rune.l0 kq a0 a1 x7_9 x8_4 x9_9 x10_4 = some (r1, r2)) ∧ Aside0 (kq ≤ kj18) ∧ Drawn0 w w')
                        case atStart => exact ⟨(x8_9), (1), (by first | rfl | (simp; done) | (simp [*]; done)), (by first | rfl | (simp; done) | (simp [*]; done)), H', ⟨Nat.le_refl _⟩, by repeat (first | exact Drawn0.refl _ | apply Drawn0.step)⟩
                        case round =>
                          clear H'
                          try clear c1
                          try clear c2
                          try clear p2
                          try clear c4
                          try clear c4b0
                          try clear c5
                          try clear c6
                          try clear c6b0
                          try clear p6
                          try clear c7
                          try clear c7b0
                          try clear p8
                          try clear q8
                          try clear hx8
                          try clear c9
                          try clear c9b0
                          try clear c10
                          try clear c12
                          try clear c12b0
                          try clear c13
                          try clear c15
                          try clear c15b0
                          try clear c16
                          try clear c17
                          try clear c17b0
                          try clear c18
                          try clear c18b0
                          try clear c20
                          try clear c20b0
                          try clear c20b1
                          try clear c21
                          try clear p2
                          try clear p6
                          try clear p8
                          try clear q8
                          obtain ⟨x8_4, x10_4, rfl, rfl, HA, HK4, ⟨m4, rfl⟩⟩ := hrel
                          cases gk with
                          | zero => exact absurd HA.out (by simp [spec_Rune.l0])
                          | succ k4 =>
                            have H := HA.out
                            clear HA
                            simp only [spec_Rune.l0] at H
                            by_cases c22 : x10_4 < x7_9
                            · rw [if_pos c22] at H
                              have c22b0 : decide (x10_4 < x7_9) = true := decide_eq_true c22
                              clear c22
                              obtain ⟨ji23, hji23⟩ : ∃ j_ : Int, (wrap64 (a1 + x10_4)) = j_ := ⟨_, rfl⟩
                              replace H : (if 0 ≤ (ji23) then (if (ji23) < (a0.size : Int) then (if (Go.bits .and .i64 (wrap64 (bt a0 (ji23))) 192) = 128 then (spec_Rune.l0 k4 a0 a1 x7_9 (Go.bits .or .i64 (wrap64 (x8_4 * 64)) (Go.bits .and .i64 (wrap64 (bt a0 (ji23))) 63)) x9_9 (wrap64 (x10_4 + 1))) else (some (0, 0))) else (none)) else (none)) = some (r1, r2) := by first | (rw [hji23] at H; exact H) | (simp only [hji23] at H ⊢; exact H)
                              have hji23w : (IntKind.i64.wrap (a1 + x10_4)) = ji23 := (i64_w _).trans hji23
                              by_cases c24 : 0 ≤ (ji23)
                              · rw [if_pos c24] at H
                                have c24b0 : decide (0 ≤ (ji23)) = true := decide_eq_true c24
                                clear c24
                                by_cases c25 : (ji23) < (a0.size : Int)
                                · rw [if_pos c25] at H
                                  have c25b0 : decide ((ji23) < (a0.size : Int)) = true := decide_eq_true c25
                                  clear c25
                                  by_cases c27 : (Go.bits .and .i64 (wrap64 (bt a0 (ji23))) 192) = 128
                                  · rw [if_pos c27] at H
                                    have c27b0 : ((Go.bits .and .i64 (wrap64 (bt a0 (ji23))) 192) == 128) = true := beq_iff_eq.mpr c27
                                    have c27b1 : ((Go.bits .and .i64 (wrap64 (bt a0 (ji23))) 192) != 128) = false := bne_eq_false_iff_eq.mpr c27
                                    clear c27
                                    have H' := Aside0.mk H
                                    clear H
                                    have p26 : 0 ≤ ((ji23) : Int) := of_decide_eq_true (by first | (with_reducible assumption) | assumption)
                                    have q26 : (ji23) < (a0.size : Int) := of_decide_eq_true (by first | (with_reducible assumption) | assumption)
                                    have hx26 := bt_at a0 (ji23)
                                    replace p26 := eq_true p26
                                    replace q26 := eq_true q26
                                    go_wp2
                                    go_roundg k4
                                    case measure => have := HJ2.out; have := HJ9.out; have := HJ18.out; have := HK4.out; omega
                                    case rel => exact ⟨(Go.bits .or .i64 (wrap64 (x8_4 * 64)) (Go.bits .and .i64 (wrap64 (bt a0 (ji23))) 63)), (wrap64 (x10_4 + 1)), (by first | rfl | (simp; done) | (simp only [← hji23] <;> (first | rfl | simp)) | (simp [*]; done)), (by first | rfl | (simp; done) | (simp [*]; done)), H', ⟨by have := HJ2.out; have := HJ9.out; have := HJ18.out; have := HK4.out; omega⟩, by repeat (first | exact Drawn0.refl _ | apply Drawn0.step)⟩
                                  · rw [if_neg c27] at H
                                    have c27b0 : ((Go.bits .and .i64 (wrap64 (bt a0 (ji23))) 192) == 128) = false := beq_eq_false_iff_ne.mpr c27
                                    have c27b1 : ((Go.bits .and .i64 (wrap64 (bt a0 (ji23))) 192) != 128) = true := bne_iff_ne.mpr c27
                                    simp only [Option.some.injEq, Prod.mk.injEq] at H
                                    obtain ⟨rfl, rfl⟩ := H
                                    have p26 : 0 ≤ ((ji23) : Int) := of_decide_eq_true (by first | (with_reducible assumption) | assumption)
                                    have q26 : (ji23) < (a0.size : Int) := of_decide_eq_true (by first | (with_reducible assumption) | assumption)
                                    have hx26 := bt_at a0 (ji23)
                                    replace p26 := eq_true p26
                                    replace q26 := eq_true q26
                                    go_wp2
                                    go_ret2
                                    exact ⟨by first | rfl | (simp; done) | (simp only [← hji23] <;> (first | rfl | simp)) | (simp [*]; done), by repeat (first | exact Drawn0.refl _ | apply Drawn0.step)⟩
                                · rw [if_neg c25] at H
                                  exact absurd H (by simp)
                              · rw [if_neg c24] at H
                                exact absurd H (by simp)
                            · rw [if_neg c22] at H
                              have c22b0 : decide (x10_4 < x7_9) = false := decide_eq_false c22
                              clear c22
                              by_cases c28 : x8_4 < x9_9
                              · rw [if_pos c28] at H
                                have c28b0 : decide (x8_4 < x9_9) = true := decide_eq_true c28
                                clear c28
                                simp only [Option.some.injEq, Prod.mk.injEq] at H
                                obtain ⟨rfl, rfl⟩ := H
                                go_wp2
                                go_ret2
                                exact ⟨by first | rfl | (simp; done) | (simp [*]; done), by repeat (first | exact Drawn0.refl _ | apply Drawn0.step)⟩
                              · rw [if_neg c28] at H
                                have c28b0 : decide (x8_4 < x9_9) = false := decide_eq_false c28
                                clear c28
                                by_cases c29 : x8_4 > 1114111
                                · rw [if_pos c29] at H
                                  have c29b0 : decide (1114111 < x8_4) = true := decide_eq_true c29
                                  clear c29
                                  simp only [Option.some.injEq, Prod.mk.injEq] at H
                                  obtain ⟨rfl, rfl⟩ := H
                                  go_wp2
                                  go_ret2
                                  exact ⟨by first | rfl | (simp; done) | (simp [*]; done), by repeat (first | exact Drawn0.refl _ | apply Drawn0.step)⟩
                                · rw [if_neg c29] at H
                                  have c29b0 : decide (1114111 < x8_4) = false := decide_eq_false c29
                                  clear c29
                                  by_cases c30 : x8_4 ≥ 55296
                                  · rw [if_pos c30] at H
                                    have c30b0 : decide (55296 ≤ x8_4) = true := decide_eq_true c30
                                    clear c30
                                    by_cases c31 : x8_4 ≤ 57343
                                    · rw [if_pos c31] at H
                                      have c31b0 : decide (x8_4 ≤ 57343) = true := decide_eq_true c31
                                      clear c31
                                      simp only [Option.some.injEq, Prod.mk.injEq] at H
                                      obtain ⟨rfl, rfl⟩ := H
                                      go_wp2
                                      go_ret2
                                      exact ⟨by first | rfl | (simp; done) | (simp [*]; done), by repeat (first | exact Drawn0.refl _ | apply Drawn0.step)⟩
                                    · rw [if_neg c31] at H
                                      have c31b0 : decide (x8_4 ≤ 57343) = false := decide_eq_false c31
                                      clear c31
                                      simp only [Option.some.injEq, Prod.mk.injEq] at H
                                      obtain ⟨rfl, rfl⟩ := H
                                      go_wp2
                                      go_ret2
                                      exact ⟨by first | rfl | (simp; done) | (simp [*]; done), by repeat (first | exact Drawn0.refl _ | apply Drawn0.step)⟩
                                  · rw [if_neg c30] at H
                                    have c30b0 : decide (55296 ≤ x8_4) = false := decide_eq_false c30
                                    clear c30
                                    simp only [Option.some.injEq, Prod.mk.injEq] at H
                                    obtain ⟨rfl, rfl⟩ := H
                                    go_wp2
                                    go_ret2
                                    exact ⟨by first | rfl | (simp; done) | (simp [*]; done), by repeat (first | exact Drawn0.refl _ | apply Drawn0.step)⟩
          · rw [if_neg c7] at H
            exact absurd H (by simp)
        · rw [if_neg c6] at H
          exact absurd H (by simp)

/-! ### spec_scan_rune: function 26 -/
def spec_scan_rune.f (k : Nat) (s0_0 : ByteArray) (s0_1 : Int) (s0_2 : Bool) (s0_3 : Bool) (s0_4 : Int) : Option (Int × Int × ByteArray × Int × Bool × Bool × Int) := (spec_Rune.f k s0_0 s0_1).bind fun bt122 => (some (bt122.1, bt122.2, s0_0, s0_1, s0_2, s0_3, s0_4))
theorem spec_scan_rune.mono : ∀ a0 a1 a2 a3 a4 k, LeO (spec_scan_rune.f k a0 a1 a2 a3 a4) (spec_scan_rune.f (k + 1) a0 a1 a2 a3 a4) := by
  intro a0 a1 a2 a3 a4 k
  unfold spec_scan_rune.f
  repeat' first
      | (with_reducible exact spec_Rune.mono _ _ _)
      | (with_reducible exact LeO.refl _)
      | (with_reducible exact LeO.none _)
      | (with_reducible refine LeO.ite ?_ ?_)
      | (with_reducible refine LeO.bind ?_ (fun _ => ?_))
      | exact spec_Rune.mono _ _ _
      | exact LeO.none _
      | refine LeO.ite ?_ ?_
      | refine LeO.bind ?_ (fun _ => ?_)
set_option maxHeartbeats 8000000 in
set_option maxRecDepth 100000 in
theorem spec_scan_rune.calls (k : Nat) (g : Nat) (s0_0 : ByteArray) (s0_1 : Int) (s0_2 : Bool) (s0_3 : Bool) (s0_4 : Int) (r1 : Int) (r2 : Int) (r3 : ByteArray) (r4 : Int) (r5 : Bool) (r6 : Bool) (r7 : Int) (w0 w : World) (hI : IsS54 w0 w g s0_0 s0_1 s0_2 s0_3 s0_4) (hB : Below w0.heap.size w0 w) (h : spec_scan_rune.f k s0_0 s0_1 s0_2 s0_3 s0_4 = some (r1, r2, r3, r4, r5, r6, r7)) :
    Calls Tryd.prog 26 #[.pointer (some ⟨g, 0, none⟩)] w fun e w' => e = .returned (.tuple #[.int .i64 r1, .int .i64 r2]) ∧ IsS54 w0 w' g r3 r4 r5 r6 r7 ∧ Below w0.heap.size w0 w' ∧ KeepBut w w' g none := by
  have HI0 := Aside0.mk hI
  have HK := Aside0.mk (KeepBut.refl w g none)
  have HL := Aside0.mk hB.size
  clear hI
  have HW0 := Aside0.mk hB.size
  have HB := Aside0.mk hB
  clear hB
  have H : ((spec_Rune.f k s0_0 s0_1).bind fun bt122 => (some (bt122.1, bt122.2, s0_0, s0_1, s0_2, s0_3, s0_4))) = some (r1, r2, r3, r4, r5, r6, r7) := h
  clear h
  replace H := Option.bind_eq_some_iff.mp H
  obtain ⟨⟨t122, t123⟩, A20, H⟩ := H
  replace H : (some (t122, t123, s0_0, s0_1, s0_2, s0_3, s0_4)) = some (r1, r2, r3, r4, r5, r6, r7) := H
  have A2 := Aside0.mk A20
  clear A20
  simp only [Option.some.injEq, Prod.mk.injEq] at H
  obtain ⟨rfl, rfl, rfl, rfl, rfl, rfl, rfl⟩ := H
  obtain ⟨HGz3, hgz3⟩ := HI0.out
  have hcz3_0 := cellS54_0 HGz3
  have hcz3_1 := cellS54_1 HGz3
  have hcz3_2 := cellS54_2 HGz3
  have hcz3_3 := cellS54_3 HGz3
  have hcz3_4 := cellS54_4 HGz3
  have hfz3_0 := blk_frozen HGz3 0
  have hfz3_1 := blk_frozen HGz3 1
  have hfz3_2 := blk_frozen HGz3 2
  have hfz3_3 := blk_frozen HGz3 3
  have hfz3_4 := blk_frozen HGz3 4
  clear HGz3 hgz3
  go_enter Tryd.func26, Tryd.ntmps26
  go_wp2_with (first | (go_at_call 44; (with_reducible refine (spec_Rune.calls k s0_0 s0_1 t122 t123 _ A2.out).mono ?_); rintro e w' ⟨rfl, ⟨nd, rfl⟩⟩; (try first | exact ⟨rfl, _, World.drewN_drewN _ _ _⟩ | exact ⟨rfl, _, Eq.trans (World.drewN_drewN _ _ _) (congrArg (World.drewN _) (Nat.add_assoc _ _ _))⟩)))
  repeat (go_quiet (first | (go_at_call 44; (with_reducible refine (spec_Rune.calls k s0_0 s0_1 t122 t123 _ A2.out).mono ?_); rintro e w' ⟨rfl, ⟨nd, rfl⟩⟩; (try first | exact ⟨rfl, _, World.drewN_drewN _ _ _⟩ | exact ⟨rfl, _, Eq.trans (World.drewN_drewN _ _ _) (congrArg (World.drewN _) (Nat.add_assoc _ _ _))⟩))); try go_wp2_with (first | (go_at_call 44; (with_reducible refine (spec_Rune.calls k s0_0 s0_1 t122 t123 _ A2.out).mono ?_); rintro e w' ⟨rfl, ⟨nd, rfl⟩⟩; (try first | exact ⟨rfl, _, World.drewN_drewN _ _ _⟩ | exact ⟨rfl, _, Eq.trans (World.drewN_drewN _ _ _) (congrArg (World.drewN _) (Nat.add_assoc _ _ _))⟩))))
  go_ret2
  exact ⟨by first | rfl | (simp [errW_none, errW_some] <;> rfl) | (simp [*, errW_none, errW_some] <;> rfl), by repeat (first | (with_reducible first | exact HI0.out | apply IsS54.alloc | apply IsS54.drewN | apply IsS54.drew | apply IsS54.set_0 | apply IsS54.set_1 | apply IsS54.set_2 | apply IsS54.set_3 | apply IsS54.set_4) | exact HI0.out), by repeat (first | (with_reducible first | exact HB.out | apply below_alloc | apply pw_below_drewN | apply below_drew1 | refine below_set ?_ (IsS54.ge HI0.out)) | exact HB.out), by repeat (first | (with_reducible first | exact HK.out | apply KeepBut.set_ | apply keep_drewN | apply keep_drew | apply keep_alloc) | exact HK.out)⟩

/-! ### spec_LineEnd: function 28 -/
def spec_LineEnd.f (a0 : Int) : Option (Bool) := if a0 = 10 then (some true) else (if a0 = 13 then (some true) else (if a0 = 8232 then (some true) else (some (a0 == 8233))))
set_option maxHeartbeats 8000000 in
set_option maxRecDepth 100000 in
theorem spec_LineEnd.calls (a0 : Int) (r : Bool) (w : World) (h : spec_LineEnd.f a0 = some r) :
    Calls Tryd.prog 28 #[.int .i64 a0] w fun e w' => e = .returned (.bool r) ∧ Drawn0 w w' := by
  have H : (if a0 = 10 then (some true) else (if a0 = 13 then (some true) else (if a0 = 8232 then (some true) else (some (a0 == 8233))))) = some r := h
  clear h
  by_cases c2 : a0 = 10
  · rw [if_pos c2] at H
    have c2b0 : (a0 == 10) = true := beq_iff_eq.mpr c2
    have c2b1 : (a0 != 10) = false := bne_eq_false_iff_eq.mpr c2
    clear c2
    obtain rfl := Option.some.inj H
    go_enter Tryd.func28, Tryd.ntmps28
    go_wp2
    go_ret
    exact ⟨by first | rfl | (simp; done) | (simp [*]; done), by repeat (first | exact Drawn0.refl _ | apply Drawn0.step)⟩
  · rw [if_neg c2] at H
    have c2b0 : (a0 == 10) = false := beq_eq_false_iff_ne.mpr c2
    have c2b1 : (a0 != 10) = true := bne_iff_ne.mpr c2
    by_cases c3 : a0 = 13
    · rw [if_pos c3] at H
      have c3b0 : (a0 == 13) = true := beq_iff_eq.mpr c3
      have c3b1 : (a0 != 13) = false := bne_eq_false_iff_eq.mpr c3
      clear c3
      obtain rfl := Option.some.inj H
      go_enter Tryd.func28, Tryd.ntmps28
      go_wp2
      go_ret
      exact ⟨by first | rfl | (simp; done) | (simp [*]; done), by repeat (first | exact Drawn0.refl _ | apply Drawn0.step)⟩
    · rw [if_neg c3] at H
      have c3b0 : (a0 == 13) = false := beq_eq_false_iff_ne.mpr c3
      have c3b1 : (a0 != 13) = true := bne_iff_ne.mpr c3
      by_cases c4 : a0 = 8232
      · rw [if_pos c4] at H
        have c4b0 : (a0 == 8232) = true := beq_iff_eq.mpr c4
        have c4b1 : (a0 != 8232) = false := bne_eq_false_iff_eq.mpr c4
        clear c4
        obtain rfl := Option.some.inj H
        go_enter Tryd.func28, Tryd.ntmps28
        go_wp2
        go_ret
        exact ⟨by first | rfl | (simp; done) | (simp [*]; done), by repeat (first | exact Drawn0.refl _ | apply Drawn0.step)⟩
      · rw [if_neg c4] at H
        have c4b0 : (a0 == 8232) = false := beq_eq_false_iff_ne.mpr c4
        have c4b1 : (a0 != 8232) = true := bne_iff_ne.mpr c4
        obtain rfl := Option.some.inj H
        go_enter Tryd.func28, Tryd.ntmps28
        go_wp2
        go_ret
        exact ⟨by first | rfl | (simp; done) | (simp [*]; done), by repeat (first | exact Drawn0.refl _ | apply Drawn0.step)⟩

/-! ### spec_between: function 45 -/
def spec_between.f (a0 : Int) (a1 : Int) (a2 : Int) : Option (Bool) := if a0 ≤ a1 then (some (decide (a1 ≤ a2))) else (some false)
set_option maxHeartbeats 8000000 in
set_option maxRecDepth 100000 in
theorem spec_between.calls (a0 : Int) (a1 : Int) (a2 : Int) (r : Bool) (w : World) (h : spec_between.f a0 a1 a2 = some r) :
    Calls Tryd.prog 45 #[.int .i64 a0, .int .i64 a1, .int .i64 a2] w fun e w' => e = .returned (.bool r) ∧ Drawn0 w w' := by
  have H : (if a0 ≤ a1 then (some (decide (a1 ≤ a2))) else (some false)) = some r := h
  clear h
  by_cases c4 : a0 ≤ a1
  · rw [if_pos c4] at H
    have c4b0 : decide (a0 ≤ a1) = true := decide_eq_true c4
    clear c4
    obtain rfl := Option.some.inj H
    go_enter Tryd.func45, Tryd.ntmps45
    go_wp2
    go_ret
    exact ⟨by first | rfl | (simp; done) | (simp [*]; done), by repeat (first | exact Drawn0.refl _ | apply Drawn0.step)⟩
  · rw [if_neg c4] at H
    have c4b0 : decide (a0 ≤ a1) = false := decide_eq_false c4
    clear c4
    obtain rfl := Option.some.inj H
    go_enter Tryd.func45, Tryd.ntmps45
    go_wp2
    go_ret
    exact ⟨by first | rfl | (simp; done) | (simp [*]; done), by repeat (first | exact Drawn0.refl _ | apply Drawn0.step)⟩

/-! ### spec_Blank: function 29 -/
def spec_Blank.f (a0 : Int) : Option (Bool) := if a0 = 9 then (some true) else (if a0 = 11 then (some true) else (if a0 = 12 then (some true) else (if a0 = 32 then (some true) else (if a0 = 160 then (some true) else (if a0 = 65279 then (some true) else (if a0 = 5760 then (some true) else (if a0 = 8239 then (some true) else (if a0 = 8287 then (some true) else (if a0 = 12288 then (some true) else ((spec_between.f 8192 a0 8202).bind fun t132 => (some t132)))))))))))
set_option maxHeartbeats 8000000 in
set_option maxRecDepth 100000 in
theorem spec_Blank.calls (a0 : Int) (r : Bool) (w : World) (h : spec_Blank.f a0 = some r) :
    Calls Tryd.prog 29 #[.int .i64 a0] w fun e w' => e = .returned (.bool r) ∧ Drawn0 w w' := by
  have H : (if a0 = 9 then (some true) else (if a0 = 11 then (some true) else (if a0 = 12 then (some true) else (if a0 = 32 then (some true) else (if a0 = 160 then (some true) else (if a0 = 65279 then (some true) else (if a0 = 5760 then (some true) else (if a0 = 8239 then (some true) else (if a0 = 8287 then (some true) else (if a0 = 12288 then (some true) else ((spec_between.f 8192 a0 8202).bind fun t132 => (some t132)))))))))))) = some r := h
  clear h
  by_cases c2 : a0 = 9
  · rw [if_pos c2] at H
    have c2b0 : (a0 == 9) = true := beq_iff_eq.mpr c2
    have c2b1 : (a0 != 9) = false := bne_eq_false_iff_eq.mpr c2
    clear c2
    obtain rfl := Option.some.inj H
    go_enter Tryd.func29, Tryd.ntmps29
    go_wp2
    go_ret
    exact ⟨by first | rfl | (simp; done) | (simp [*]; done), by repeat (first | exact Drawn0.refl _ | apply Drawn0.step)⟩
  · rw [if_neg c2] at H
    have c2b0 : (a0 == 9) = false := beq_eq_false_iff_ne.mpr c2
    have c2b1 : (a0 != 9) = true := bne_iff_ne.mpr c2
    by_cases c3 : a0 = 11
    · rw [if_pos c3] at H
      have c3b0 : (a0 == 11) = true := beq_iff_eq.mpr c3
      have c3b1 : (a0 != 11) = false := bne_eq_false_iff_eq.mpr c3
      clear c3
      obtain rfl := Option.some.inj H
      go_enter Tryd.func29, Tryd.ntmps29
      go_wp2
      go_ret
      exact ⟨by first | rfl | (simp; done) | (simp [*]; done), by repeat (first | exact Drawn0.refl _ | apply Drawn0.step)⟩
    · rw [if_neg c3] at H
      have c3b0 : (a0 == 11) = false := beq_eq_false_iff_ne.mpr c3
      have c3b1 : (a0 != 11) = true := bne_iff_ne.mpr c3
      by_cases c4 : a0 = 12
      · rw [if_pos c4] at H
        have c4b0 : (a0 == 12) = true := beq_iff_eq.mpr c4
        have c4b1 : (a0 != 12) = false := bne_eq_false_iff_eq.mpr c4
        clear c4
        obtain rfl := Option.some.inj H
        go_enter Tryd.func29, Tryd.ntmps29
        go_wp2
        go_ret
        exact ⟨by first | rfl | (simp; done) | (simp [*]; done), by repeat (first | exact Drawn0.refl _ | apply Drawn0.step)⟩
      · rw [if_neg c4] at H
        have c4b0 : (a0 == 12) = false := beq_eq_false_iff_ne.mpr c4
        have c4b1 : (a0 != 12) = true := bne_iff_ne.mpr c4
        by_cases c5 : a0 = 32
        · rw [if_pos c5] at H
          have c5b0 : (a0 == 32) = true := beq_iff_eq.mpr c5
          have c5b1 : (a0 != 32) = false := bne_eq_false_iff_eq.mpr c5
          clear c5
          obtain rfl := Option.some.inj H
          go_enter Tryd.func29, Tryd.ntmps29
          go_wp2
          go_ret
          exact ⟨by first | rfl | (simp; done) | (simp [*]; done), by repeat (first | exact Drawn0.refl _ | apply Drawn0.step)⟩
        · rw [if_neg c5] at H
          have c5b0 : (a0 == 32) = false := beq_eq_false_iff_ne.mpr c5
          have c5b1 : (a0 != 32) = true := bne_iff_ne.mpr c5
          by_cases c6 : a0 = 160
          · rw [if_pos c6] at H
            have c6b0 : (a0 == 160) = true := beq_iff_eq.mpr c6
            have c6b1 : (a0 != 160) = false := bne_eq_false_iff_eq.mpr c6
            clear c6
            obtain rfl := Option.some.inj H
            go_enter Tryd.func29, Tryd.ntmps29
            go_wp2
            go_ret
            exact ⟨by first | rfl | (simp; done) | (simp [*]; done), by repeat (first | exact Drawn0.refl _ | apply Drawn0.step)⟩
          · rw [if_neg c6] at H
            have c6b0 : (a0 == 160) = false := beq_eq_false_iff_ne.mpr c6
            have c6b1 : (a0 != 160) = true := bne_iff_ne.mpr c6
            by_cases c7 : a0 = 65279
            · rw [if_pos c7] at H
              have c7b0 : (a0 == 65279) = true := beq_iff_eq.mpr c7
              have c7b1 : (a0 != 65279) = false := bne_eq_false_iff_eq.mpr c7
              clear c7
              obtain rfl := Option.some.inj H
              go_enter Tryd.func29, Tryd.ntmps29
              go_wp2
              go_ret
              exact ⟨by first | rfl | (simp; done) | (simp [*]; done), by repeat (first | exact Drawn0.refl _ | apply Drawn0.step)⟩
            · rw [if_neg c7] at H
              have c7b0 : (a0 == 65279) = false := beq_eq_false_iff_ne.mpr c7
              have c7b1 : (a0 != 65279) = true := bne_iff_ne.mpr c7
              by_cases c8 : a0 = 5760
              · rw [if_pos c8] at H
                have c8b0 : (a0 == 5760) = true := beq_iff_eq.mpr c8
                have c8b1 : (a0 != 5760) = false := bne_eq_false_iff_eq.mpr c8
                clear c8
                obtain rfl := Option.some.inj H
                go_enter Tryd.func29, Tryd.ntmps29
                go_wp2
                go_ret
                exact ⟨by first | rfl | (simp; done) | (simp [*]; done), by repeat (first | exact Drawn0.refl _ | apply Drawn0.step)⟩
              · rw [if_neg c8] at H
                have c8b0 : (a0 == 5760) = false := beq_eq_false_iff_ne.mpr c8
                have c8b1 : (a0 != 5760) = true := bne_iff_ne.mpr c8
                by_cases c9 : a0 = 8239
                · rw [if_pos c9] at H
                  have c9b0 : (a0 == 8239) = true := beq_iff_eq.mpr c9
                  have c9b1 : (a0 != 8239) = false := bne_eq_false_iff_eq.mpr c9
                  clear c9
                  obtain rfl := Option.some.inj H
                  go_enter Tryd.func29, Tryd.ntmps29
                  go_wp2
                  go_ret
                  exact ⟨by first | rfl | (simp; done) | (simp [*]; done), by repeat (first | exact Drawn0.refl _ | apply Drawn0.step)⟩
                · rw [if_neg c9] at H
                  have c9b0 : (a0 == 8239) = false := beq_eq_false_iff_ne.mpr c9
                  have c9b1 : (a0 != 8239) = true := bne_iff_ne.mpr c9
                  by_cases c10 : a0 = 8287
                  · rw [if_pos c10] at H
                    have c10b0 : (a0 == 8287) = true := beq_iff_eq.mpr c10
                    have c10b1 : (a0 != 8287) = false := bne_eq_false_iff_eq.mpr c10
                    clear c10
                    obtain rfl := Option.some.inj H
                    go_enter Tryd.func29, Tryd.ntmps29
                    go_wp2
                    go_ret
                    exact ⟨by first | rfl | (simp; done) | (simp [*]; done), by repeat (first | exact Drawn0.refl _ | apply Drawn0.step)⟩
                  · rw [if_neg c10] at H
                    have c10b0 : (a0 == 8287) = false := beq_eq_false_iff_ne.mpr c10
                    have c10b1 : (a0 != 8287) = true := bne_iff_ne.mpr c10
                    by_cases c11 : a0 = 12288
                    · rw [if_pos c11] at H
                      have c11b0 : (a0 == 12288) = true := beq_iff_eq.mpr c11
                      have c11b1 : (a0 != 12288) = false := bne_eq_false_iff_eq.mpr c11
                      clear c11
                      obtain rfl := Option.some.inj H
                      go_enter Tryd.func29, Tryd.ntmps29
                      go_wp2
                      go_ret
                      exact ⟨by first | rfl | (simp; done) | (simp [*]; done), by repeat (first | exact Drawn0.refl _ | apply Drawn0.step)⟩
                    · rw [if_neg c11] at H
                      have c11b0 : (a0 == 12288) = false := beq_eq_false_iff_ne.mpr c11
                      have c11b1 : (a0 != 12288) = true := bne_iff_ne.mpr c11
                      replace H := Option.bind_eq_some_iff.mp H
                      obtain ⟨t132, A120, H⟩ := H
                      replace H : (some t132) = some r := H
                      have A12 := Aside0.mk A120
                      clear A120
                      obtain rfl := Option.some.inj H
                      go_enter Tryd.func29, Tryd.ntmps29
                      go_wp2_with (first | ((with_reducible refine gate_callee (f := 45) rfl ?_); refine goesL_ (some 16) rfl rfl Tryd.func45 (by kernel_rfl) rfl #[.int .i64 8192, .int .i64 a0, .int .i64 8202] rfl (by (try simp only [List.map_toArray, List.map_cons, List.map_nil]); first | done | rfl | (simp only [List.length_drop, List.length_take]; rfl)) ?_; (with_reducible refine (spec_between.calls 8192 a0 8202 t132 _ A12.out).mono ?_); rintro e w' ⟨rfl, ⟨nd, rfl⟩⟩; refine ⟨_, rfl, ?_⟩))
                      go_ret
                      exact ⟨by first | rfl | (simp; done) | (simp [*]; done), by repeat (first | exact Drawn0.refl _ | apply Drawn0.step)⟩

/-! ### spec_Digit: function 31 -/
def spec_Digit.f (a0 : Int) : Option (Bool) := (spec_between.f 48 a0 57).bind fun t237 => (some t237)
set_option maxHeartbeats 8000000 in
set_option maxRecDepth 100000 in
theorem spec_Digit.calls (a0 : Int) (r : Bool) (w : World) (h : spec_Digit.f a0 = some r) :
    Calls Tryd.prog 31 #[.int .i64 a0] w fun e w' => e = .returned (.bool r) ∧ Drawn0 w w' := by
  have H : ((spec_between.f 48 a0 57).bind fun t237 => (some t237)) = some r := h
  clear h
  replace H := Option.bind_eq_some_iff.mp H
  obtain ⟨t237, A20, H⟩ := H
  replace H : (some t237) = some r := H
  have A2 := Aside0.mk A20
  clear A20
  obtain rfl := Option.some.inj H
  go_enter Tryd.func31, Tryd.ntmps31
  go_wp2_with (first | ((with_reducible refine gate_callee (f := 45) rfl ?_); refine goesL_ (some 4) rfl rfl Tryd.func45 (by kernel_rfl) rfl #[.int .i64 48, .int .i64 a0, .int .i64 57] rfl (by (try simp only [List.map_toArray, List.map_cons, List.map_nil]); first | done | rfl | (simp only [List.length_drop, List.length_take]; rfl)) ?_; (with_reducible refine (spec_between.calls 48 a0 57 t237 _ A2.out).mono ?_); rintro e w' ⟨rfl, ⟨nd, rfl⟩⟩; refine ⟨_, rfl, ?_⟩))
  go_ret
  exact ⟨by first | rfl | (simp; done) | (simp [*]; done), by repeat (first | exact Drawn0.refl _ | apply Drawn0.step)⟩

/-! ### spec_bytesOf: function 69 -/
def spec_bytesOf.l0 : Nat → List Int → List Int → Int → Option (ByteArray)
  | 0, _, _, _ => none
  | k + 1, x0, x3, x4 => if x4 < (x0.length : Int) then (if 0 ≤ x4 then (if x4 < (x3.length : Int) then (spec_bytesOf.l0 k x0 (x3.set (x4 : Int).toNat ((rd x0 x4) % 256)) (wrap64 (x4 + 1))) else (none)) else (none)) else (some (strOfNums x3))
def spec_bytesOf.f (k : Nat) (l0 : List Int) : Option (ByteArray) := if 0 ≤ (l0.length : Int) then (if ((l0.length : Int) : Int).toNat ≤ 281474976710656 then (spec_bytesOf.l0 k l0 (List.replicate ((l0.length : Int) : Int).toNat 0) 0) else (none)) else (none)
theorem spec_bytesOf.mono_l : ∀ k, (∀ y0 y1 y2, LeO (spec_bytesOf.l0 k y0 y1 y2) (spec_bytesOf.l0 (k + 1) y0 y1 y2))
  | 0 => fun _ _ _ r h => by simp [spec_bytesOf.l0] at h
  | k + 1 => by
    have ih0 := spec_bytesOf.mono_l k
    · intro y0 y1 y2
      unfold spec_bytesOf.l0
      repeat' first
      | (with_reducible exact ih0 _ _ _)
      | (with_reducible exact LeO.refl _)
      | (with_reducible exact LeO.none _)
      | (with_reducible refine LeO.ite ?_ ?_)
      | (with_reducible refine LeO.bind ?_ (fun _ => ?_))
      | exact ih0 _ _ _
      | exact LeO.none _
      | refine LeO.ite ?_ ?_
      | refine LeO.bind ?_ (fun _ => ?_)
theorem spec_bytesOf.mono : ∀ a0 k, LeO (spec_bytesOf.f k a0) (spec_bytesOf.f (k + 1) a0) := by
  intro a0 k
  have ih0 := spec_bytesOf.mono_l k
  unfold spec_bytesOf.f
  repeat' first
      | (with_reducible exact ih0 _ _ _)
      | (with_reducible exact LeO.refl _)
      | (with_reducible exact LeO.none _)
      | (with_reducible refine LeO.ite ?_ ?_)
      | (with_reducible refine LeO.bind ?_ (fun _ => ?_))
      | exact ih0 _ _ _
      | exact LeO.none _
      | refine LeO.ite ?_ ?_
      | refine LeO.bind ?_ (fun _ => ?_)
set_option maxHeartbeats 8000000 in
set_option maxRecDepth 100000 in
theorem spec_bytesOf.calls (k : Nat) (A0 : Option Addr) (c0 : Nat) (l0 : List Int) (r : ByteArray) (w : World) (hr0 : Kd.C (Kd.int .i64) w A0 l0.length l0) (hc0 : l0.length ≤ c0) (h : spec_bytesOf.f k l0 = some r) :
    Calls Tryd.prog 69 #[.slice A0 l0.length c0] w fun e w' => e = .returned (.string r) ∧ Below w.heap.size w w' := by
  have HR0 := Aside0.mk hr0
  have HC0 := Aside0.mk hc0
  clear hr0 hc0
  have HB := Aside0.mk (Below.refl w.heap.size w)
  have H : (if 0 ≤ (l0.length : Int) then (if ((l0.length : Int) : Int).toNat ≤ 281474976710656 then (spec_bytesOf.l0 k l0 (List.replicate ((l0.length : Int) : Int).toNat 0) 0) else (none)) else (none)) = some r := h
  clear h
  by_cases c2 : 0 ≤ (l0.length : Int)
  · rw [if_pos c2] at H
    have c2b0 := eq_true c2
    have c2b1 : decide (0 ≤ (l0.length : Int)) = true := decide_eq_true c2
    clear c2
    by_cases c3 : ((l0.length : Int) : Int).toNat ≤ 281474976710656
    · rw [if_pos c3] at H
      have c3b0 := eq_true c3
      have c3b1 : decide (((l0.length : Int) : Int).toNat ≤ 281474976710656) = true := decide_eq_true c3
      clear c3
      obtain ⟨y284, hy284⟩ : ∃ y_ : List Int, y_ = (List.replicate ((l0.length : Int) : Int).toNat 0) := ⟨_, rfl⟩
      replace H : (spec_bytesOf.l0 k l0 y284 0) = some r := by first | (rw [hy284]; with_reducible exact H) | (have H2_ := (Option.bind_some _ _).symm.trans H; rw [hy284]; with_reducible exact H2_) | (have H2_ := (Option.bind_some _ _).symm.trans H; with_reducible exact H2_) | with_reducible exact H | (rw [hy284]; exact H) | exact H
      have Ny284 := Aside0.mk hy284
      clear hy284
      have H' := Aside0.mk H
      clear H
      go_enter Tryd.func69, Tryd.ntmps69
      go_wp2_with (first | ((with_reducible refine gate_dst (N := 7) rfl ?_); refine Kd.R_make (Kd.int .u8) _ 5 rfl (N := 7) rfl 45 _ _ rfl (l0.length : Int) rfl rfl Tryd.underlying45 (.int .u8 0) 1 info5 rfl (by decide) (by omega) 0 (ok := fun _ => True) (okp := fun _ => True) rfl (fun _ hk => hk) trivial (of_decide_eq_true (by first | (with_reducible assumption) | assumption)) (Nat.le_trans (Nat.mul_le_mul_right _ (of_decide_eq_true (by first | (with_reducible assumption) | assumption) : (l0.length : Int).toNat ≤ 281474976710656)) (by omega)) (Below.refl _ _) (Nat.le_refl _) ?_; intro v285 w4 ho5 hb hg_ hnew_; clear hg_ hnew_; (first | rw [← Ny284.out] at ho5 | (simp only [Int.reduceToNat] at ho5; rw [← Ny284.out] at ho5)); have n0_ := Aside0.mk (Kd.R_lower ho5 (below_size (by repeat (first | (with_reducible first | exact HB.out | apply below_alloc | apply pw_below_drewN | apply below_drew1) | exact HB.out)))); have n1_ := Aside0.mk (below_step (by repeat (first | (with_reducible first | exact HB.out | apply below_alloc | apply pw_below_drewN | apply below_drew1) | exact HB.out)) hb); clear HB; have HO286 := n0_; have HB := n1_; clear n0_ n1_; clear hb ho5))
      go_loopg [4] k (fun kq v4 w' => ∃ (x3_1 : List Int) (x4_1 : Int), v4 = .int .i64 x4_1 ∧ Aside0 (spec_bytesOf.l0 kq l0 x3_1 x4_1 = some r) ∧ Aside0 (kq ≤ k) ∧ Aside0 (Kd.R (Kd.int .u8) 5 w' w.heap.size (fun _ => True) v285 x3_1) ∧ Aside0 (Below w.heap.size w w'))
      case atStart => exact ⟨(y284), (0), (by first | rfl | (simp; done) | (simp [*]; done)), H', ⟨Nat.le_refl _⟩, ⟨by (with_reducible repeat (first | apply Kd.R_alloc | apply Kd.R_drewN | apply Kd.R_drew)); exact HO286.out⟩, ⟨by repeat (first | (with_reducible first | exact HB.out | apply below_alloc | apply pw_below_drewN | apply below_drew1) | exact HB.out)⟩⟩
      case round =>
        clear H'
        try clear c2
        try clear c2b0
        try clear c2b1
        try clear p2
        try clear c3
        try clear c3b0
        try clear c3b1
        obtain ⟨x3_1, x4_1, rfl, HA, HK1, HO_3, HB⟩ := hrel
        cases gk with
        | zero => exact absurd HA.out (by simp [spec_bytesOf.l0])
        | succ k1 =>
          have H := HA.out
          clear HA
          simp only [spec_bytesOf.l0] at H
          by_cases c6 : x4_1 < (l0.length : Int)
          · rw [if_pos c6] at H
            have c6b0 : decide (x4_1 < (l0.length : Int)) = true := decide_eq_true c6
            clear c6
            by_cases c7 : 0 ≤ x4_1
            · rw [if_pos c7] at H
              have c7b0 : decide (0 ≤ x4_1) = true := decide_eq_true c7
              clear c7
              by_cases c8 : x4_1 < (x3_1.length : Int)
              · rw [if_pos c8] at H
                have c8b0 : decide (x4_1 < (x3_1.length : Int)) = true := decide_eq_true c8
                clear c8
                obtain ⟨y288, hy288⟩ : ∃ y_ : List Int, y_ = (x3_1.set (x4_1 : Int).toNat ((rd l0 x4_1) % 256)) := ⟨_, rfl⟩
                replace H : (spec_bytesOf.l0 k1 l0 y288 (wrap64 (x4_1 + 1))) = some r := by first | (rw [hy288]; with_reducible exact H) | (have H2_ := (Option.bind_some _ _).symm.trans H; rw [hy288]; with_reducible exact H2_) | (have H2_ := (Option.bind_some _ _).symm.trans H; with_reducible exact H2_) | with_reducible exact H | (rw [hy288]; exact H) | exact H
                have Ny288 := Aside0.mk hy288
                clear hy288
                have H' := Aside0.mk H
                clear H
                have p287 : 0 ≤ (x4_1 : Int) := of_decide_eq_true (by first | (with_reducible assumption) | assumption)
                have q287 : x4_1 < (l0.length : Int) := of_decide_eq_true (by first | (with_reducible assumption) | assumption)
                obtain ⟨ad287, e287, hx287_0⟩ := Kd.at_int HR0.out x4_1 p287 q287
                cases e287
                replace hx287_0 := (HB.out.cell (World.block_lt_of_cell? w _ hx287_0)).trans hx287_0
                replace p287 := eq_true p287
                replace q287 := eq_true q287
                have p9 : 0 ≤ (x4_1 : Int) := of_decide_eq_true (by first | (with_reducible assumption) | assumption)
                have q9 : (x4_1 : Int) < ((x3_1.length : Int) : Int) := of_decide_eq_true (by first | (with_reducible assumption) | assumption)
                obtain ⟨go9, co9, eo9, gb9, gl9, cl9, HG9⟩ := Kd.R_form HO_3.out (by omega)
                (first | cases eo9 | (injection eo9 with ea_ en_ ec_; (first | subst ea_ | (injection ea_ with ea_; subst ea_)); subst ec_; clear en_))
                have GB9 := Aside0.mk gb9
                have GG9 := Aside0.mk HG9
                clear gb9 gl9 HG9
                obtain ⟨hx9_0, hf9_0⟩ := Kd.R_celln 0 HO_3.out (x4_1 : Int) p9 q9
                replace p9 := eq_true p9
                replace q9 := eq_true q9
                have HP10 := Kd.R_putg HO_3.out (x4_1 : Int) ((rd l0 x4_1) % 256)
                go_wp2_with (first | ((with_reducible refine gate_store (t := 5) (p := 21) rfl ?_); refine store_event (t := 5) (p := 21) (v := ?vo_w11) (w1 := (wr.setCell ⟨go9, (x4_1 : Int).toNat, none⟩ (.int .u8 ((rd l0 x4_1) % 256)))) ?hg ?ho ?hn ?hr ?_; (case ho => rfl); (case hg => rfl); (case hn => rfl); (case hr => first | (go_simp; done) | (go_simp; rfl)); intro w11 hw; have hg : wr.grownBy w11 (some go9) := (by rw [hw]; exact HP10.2); have hp_ : Kd.R (Kd.int .u8) 5 w11 w.heap.size (fun _ => True) (.slice (some ⟨go9, 0, none⟩) x3_1.length co9) y288 := (by rw [hw, Ny288.out]; exact HP10.1); clear HP10; have n0_ := Aside0.mk (hp_); have n1_ := Aside0.mk ((by rw [hw]; exact below_set (HB.out) GB9.out : Below w.heap.size w w11)); clear HO_3; clear HB; have HO_3 := n0_; have HB := n1_; clear n0_ n1_; clear hg hw hp_))
                go_roundg k1
                case measure => have := HK1.out; omega
                case rel => exact ⟨(y288), (wrap64 (x4_1 + 1)), (by first | rfl | (simp; done) | (simp [*]; done)), H', ⟨by have := HK1.out; omega⟩, ⟨by (with_reducible repeat (first | apply Kd.R_alloc | apply Kd.R_drewN | apply Kd.R_drew)); exact HO_3.out⟩, ⟨by repeat (first | (with_reducible first | exact HB.out | apply below_alloc | apply pw_below_drewN | apply below_drew1) | exact HB.out)⟩⟩
              · rw [if_neg c8] at H
                exact absurd H (by simp)
            · rw [if_neg c7] at H
              exact absurd H (by simp)
          · rw [if_neg c6] at H
            have c6b0 : decide (x4_1 < (l0.length : Int)) = false := decide_eq_false c6
            clear c6
            obtain rfl := Option.some.inj H
            have hcv12 := own_string (P := Tryd.prog) Tryd.underlying45 Tryd.underlying5 Tryd.underlying9 (Kd.own_of_R HO_3.out)
            go_wp2
            go_ret
            exact ⟨by first | rfl | (simp [errW_none, errW_some] <;> rfl) | (simp [*, errW_none, errW_some] <;> rfl), by repeat (first | (with_reducible first | exact HB.out | apply below_alloc | apply pw_below_drewN | apply below_drew1) | exact HB.out)⟩
    · rw [if_neg c3] at H
      exact absurd H (by simp)
  · rw [if_neg c2] at H
    exact absurd H (by simp)

/-! ### spec_latin: function 53 -/
mutual
def spec_latin.j0 : Nat → Int → Int → Bool → Option (Int)
  | 0, _, _, _ => none
  | k + 1, x0, x3, x4 => if x4 = true then (some 2) else (if x3 = 183 then (some 1) else (if x3 = 215 then (spec_latin.j1 k x0 (x3 == 215)) else (spec_latin.j1 k x0 (x3 == 247))))
def spec_latin.j1 : Nat → Int → Bool → Option (Int)
  | 0, _, _ => none
  | k + 1, x0, x10 => if x10 = true then (some 0) else (if x0 < 192 then (some 0) else (some 2))
end
def spec_latin.f (k : Nat) (a0 : Int) : Option (Int) := if a0 = 170 then (spec_latin.j0 k a0 a0 (a0 == 170)) else (if a0 = 181 then (spec_latin.j0 k a0 a0 (a0 == 181)) else (spec_latin.j0 k a0 a0 (a0 == 186)))
theorem spec_latin.mono_l : ∀ k, (∀ y0 y1 y2, LeO (spec_latin.j0 k y0 y1 y2) (spec_latin.j0 (k + 1) y0 y1 y2)) ∧ (∀ y0 y1, LeO (spec_latin.j1 k y0 y1) (spec_latin.j1 (k + 1) y0 y1))
  | 0 => ⟨fun _ _ _ r h => by simp [spec_latin.j0] at h, fun _ _ r h => by simp [spec_latin.j1] at h⟩
  | k + 1 => by
    obtain ⟨ih0, ih1⟩ := spec_latin.mono_l k
    refine ⟨?_, ?_⟩
    · intro y0 y1 y2
      unfold spec_latin.j0
      repeat' first
      | (with_reducible exact ih0 _ _ _)
      | (with_reducible exact ih1 _ _)
      | (with_reducible exact LeO.refl _)
      | (with_reducible exact LeO.none _)
      | (with_reducible refine LeO.ite ?_ ?_)
      | (with_reducible refine LeO.bind ?_ (fun _ => ?_))
      | exact ih0 _ _ _
      | exact ih1 _ _
      | exact LeO.none _
      | refine LeO.ite ?_ ?_
      | refine LeO.bind ?_ (fun _ => ?_)
    · intro y0 y1
      unfold spec_latin.j1
      repeat' first
      | (with_reducible exact ih0 _ _ _)
      | (with_reducible exact ih1 _ _)
      | (with_reducible exact LeO.refl _)
      | (with_reducible exact LeO.none _)
      | (with_reducible refine LeO.ite ?_ ?_)
      | (with_reducible refine LeO.bind ?_ (fun _ => ?_))
      | exact ih0 _ _ _
      | exact ih1 _ _
      | exact LeO.none _
      | refine LeO.ite ?_ ?_
      | refine LeO.bind ?_ (fun _ => ?_)
theorem spec_latin.mono : ∀ a0 k, LeO (spec_latin.f k a0) (spec_latin.f (k + 1) a0) := by
  intro a0 k
  obtain ⟨ih0, ih1⟩ := spec_latin.mono_l k
  unfold spec_latin.f
  repeat' first
      | (with_reducible exact ih0 _ _ _)
      | (with_reducible exact ih1 _ _)
      | (with_reducible exact LeO.refl _)
      | (with_reducible exact LeO.none _)
      | (with_reducible refine LeO.ite ?_ ?_)
      | (with_reducible refine LeO.bind ?_ (fun _ => ?_))
      | exact ih0 _ _ _
      | exact ih1 _ _
      | exact LeO.none _
      | refine LeO.ite ?_ ?_
      | refine LeO.bind ?_ (fun _ => ?_)
set_option maxHeartbeats 8000000 in
set_option maxRecDepth 100000 in
theorem spec_latin.calls (k : Nat) (a0 : Int) (r : Int) (w : World) (h : spec_latin.f k a0 = some r) :
    Calls Tryd.prog 53 #[.int .i64 a0] w fun e w' => e = .returned (.int .i64 r) ∧ Drawn0 w w' := by
  have H : (if a0 = 170 then (spec_latin.j0 k a0 a0 (a0 == 170)) else (if a0 = 181 then (spec_latin.j0 k a0 a0 (a0 == 181)) else (spec_latin.j0 k a0 a0 (a0 == 186)))) = some r := h
  clear h
  have HC2 := Aside0.mk H
  clear H
  go_enter Tryd.func53, Tryd.ntmps53
  go_upto_if 4 with (fail)
  go_cut [4] (fun v4 wc => ∃ (kq : Nat) (x4_1 : Bool), v4 = .bool x4_1 ∧ Aside0 (spec_latin.j0 kq a0 a0 x4_1 = some r) ∧ Aside0 (kq ≤ k) ∧ Drawn0 w wc)
  case first =>
    have H := HC2.out
    clear HC2
    by_cases c3 : a0 = 170
    · rw [if_pos c3] at H
      have c3b0 : (a0 == 170) = true := beq_iff_eq.mpr c3
      have c3b1 : (a0 != 170) = false := bne_eq_false_iff_eq.mpr c3
      clear c3
      (first | rw [c3b0] | (simp only [i64_w, i32_w]; rw [c3b0]) | skip)
      have H' := Aside0.mk H
      clear H
      go_wp2
      go_meet
      case rel => exact ⟨_, ((a0 == 170)), (by first | rfl | (simp; done) | (simp [*]; done)), H', ⟨by first | omega | exact Nat.le_refl _⟩, by repeat (first | exact Drawn0.refl _ | apply Drawn0.step)⟩
    · rw [if_neg c3] at H
      have c3b0 : (a0 == 170) = false := beq_eq_false_iff_ne.mpr c3
      have c3b1 : (a0 != 170) = true := bne_iff_ne.mpr c3
      (first | rw [c3b0] | (simp only [i64_w, i32_w]; rw [c3b0]) | skip)
      by_cases c4 : a0 = 181
      · rw [if_pos c4] at H
        have c4b0 : (a0 == 181) = true := beq_iff_eq.mpr c4
        have c4b1 : (a0 != 181) = false := bne_eq_false_iff_eq.mpr c4
        clear c4
        have H' := Aside0.mk H
        clear H
        go_wp2
        go_meet
        case rel => exact ⟨_, ((a0 == 181)), (by first | rfl | (simp; done) | (simp [*]; done)), H', ⟨by first | omega | exact Nat.le_refl _⟩, by repeat (first | exact Drawn0.refl _ | apply Drawn0.step)⟩
      · rw [if_neg c4] at H
        have c4b0 : (a0 == 181) = false := beq_eq_false_iff_ne.mpr c4
        have c4b1 : (a0 != 181) = true := bne_iff_ne.mpr c4
        have H' := Aside0.mk H
        clear H
        go_wp2
        go_meet
        case rel => exact ⟨_, ((a0 == 186)), (by first | rfl | (simp; done) | (simp [*]; done)), H', ⟨by first | omega | exact Nat.le_refl _⟩, by repeat (first | exact Drawn0.refl _ | apply Drawn0.step)⟩
  case rest =>
    clear HC2
    try clear p2
    try clear c3
    try clear c3b0
    try clear c3b1
    try clear c4
    try clear c4b0
    try clear c4b1
    obtain ⟨kq, x4_1, rfl, HA, HJ1, ⟨mc1, rfl⟩⟩ := hcut
    cases kq with
    | zero => exact absurd HA.out (by simp [spec_latin.j0])
    | succ kj1 =>
      have H := HA.out
      clear HA
      simp only [spec_latin.j0] at H
      by_cases c5 : x4_1 = true
      · subst c5
        have H1 : (some 2) = some r := by rw [if_pos rfl] at H; exact H
        clear H
        have H := H1
        clear H1
        obtain rfl := Option.some.inj H
        go_wp2
        go_ret
        exact ⟨by first | rfl | (simp; done) | (simp [*]; done), by repeat (first | exact Drawn0.refl _ | apply Drawn0.step)⟩
      · replace c5 := Bool.eq_false_iff.mpr c5
        subst c5
        have H1 : (if a0 = 183 then (some 1) else (if a0 = 215 then (spec_latin.j1 kj1 a0 (a0 == 215)) else (spec_latin.j1 kj1 a0 (a0 == 247)))) = some r := by rw [if_neg (show ¬ (false = true) by decide)] at H; exact H
        clear H
        have H := H1
        clear H1
        by_cases c6 : a0 = 183
        · rw [if_pos c6] at H
          have c6b0 : (a0 == 183) = true := beq_iff_eq.mpr c6
          have c6b1 : (a0 != 183) = false := bne_eq_false_iff_eq.mpr c6
          clear c6
          obtain rfl := Option.some.inj H
          go_wp2
          go_ret
          exact ⟨by first | rfl | (simp; done) | (simp [*]; done), by repeat (first | exact Drawn0.refl _ | apply Drawn0.step)⟩
        · rw [if_neg c6] at H
          have c6b0 : (a0 == 183) = false := beq_eq_false_iff_ne.mpr c6
          have c6b1 : (a0 != 183) = true := bne_iff_ne.mpr c6
          have HC7 := Aside0.mk H
          clear H
          go_upto_if 10 with (fail)
          go_cut [10] (fun v10 wc => ∃ (kq : Nat) (x10_6 : Bool), v10 = .bool x10_6 ∧ Aside0 (spec_latin.j1 kq a0 x10_6 = some r) ∧ Aside0 (kq ≤ kj1) ∧ Drawn0 w wc)
          case first =>
            have H := HC7.out
            clear HC7
            by_cases c8 : a0 = 215
            · rw [if_pos c8] at H
              have c8b0 : (a0 == 215) = true := beq_iff_eq.mpr c8
              have c8b1 : (a0 != 215) = false := bne_eq_false_iff_eq.mpr c8
              clear c8
              (first | rw [c8b0] | (simp only [i64_w, i32_w]; rw [c8b0]) | skip)
              have H' := Aside0.mk H
              clear H
              go_wp2
              go_meet
              case rel => exact ⟨_, ((a0 == 215)), (by first | rfl | (simp; done) | (simp [*]; done)), H', ⟨by have := HJ1.out; first | omega | exact Nat.le_refl _⟩, by repeat (first | exact Drawn0.refl _ | apply Drawn0.step)⟩
            · rw [if_neg c8] at H
              have c8b0 : (a0 == 215) = false := beq_eq_false_iff_ne.mpr c8
              have c8b1 : (a0 != 215) = true := bne_iff_ne.mpr c8
              (first | rw [c8b0] | (simp only [i64_w, i32_w]; rw [c8b0]) | skip)
              have H' := Aside0.mk H
              clear H
              go_wp2
              go_meet
              case rel => exact ⟨_, ((a0 == 247)), (by first | rfl | (simp; done) | (simp [*]; done)), H', ⟨by have := HJ1.out; first | omega | exact Nat.le_refl _⟩, by repeat (first | exact Drawn0.refl _ | apply Drawn0.step)⟩
          case rest =>
            clear HC7
            try clear c1
            try clear p2
            try clear c3
            try clear c3b0
            try clear c3b1
            try clear c4
            try clear c4b0
            try clear c4b1
            try clear c5
            try clear c6
            try clear c6b0
            try clear c6b1
            try clear c8
            try clear c8b0
            try clear c8b1
            try clear p2
            obtain ⟨kq, x10_6, rfl, HA, HJ6, ⟨mc6, rfl⟩⟩ := hcut
            cases kq with
            | zero => exact absurd HA.out (by simp [spec_latin.j1])
            | succ kj6 =>
              have H := HA.out
              clear HA
              simp only [spec_latin.j1] at H
              by_cases c9 : x10_6 = true
              · subst c9
                have H1 : (some 0) = some r := by rw [if_pos rfl] at H; exact H
                clear H
                have H := H1
                clear H1
                obtain rfl := Option.some.inj H
                go_wp2
                go_ret
                exact ⟨by first | rfl | (simp; done) | (simp [*]; done), by repeat (first | exact Drawn0.refl _ | apply Drawn0.step)⟩
              · replace c9 := Bool.eq_false_iff.mpr c9
                subst c9
                have H1 : (if a0 < 192 then (some 0) else (some 2)) = some r := by rw [if_neg (show ¬ (false = true) by decide)] at H; exact H
                clear H
                have H := H1
                clear H1
                by_cases c10 : a0 < 192
                · rw [if_pos c10] at H
                  have c10b0 : decide (a0 < 192) = true := decide_eq_true c10
                  clear c10
                  obtain rfl := Option.some.inj H
                  go_wp2
                  go_ret
                  exact ⟨by first | rfl | (simp; done) | (simp [*]; done), by repeat (first | exact Drawn0.refl _ | apply Drawn0.step)⟩
                · rw [if_neg c10] at H
                  have c10b0 : decide (a0 < 192) = false := decide_eq_false c10
                  clear c10
                  obtain rfl := Option.some.inj H
                  go_wp2
                  go_ret
                  exact ⟨by first | rfl | (simp; done) | (simp [*]; done), by repeat (first | exact Drawn0.refl _ | apply Drawn0.step)⟩

/-! ### spec_wide: function 54 -/
mutual
def spec_wide.j0 : Nat → Int → Bool → Option (Int)
  | 0, _, _ => none
  | k + 1, x0, x3 => if x3 = true then (some 1) else ((spec_between.f 913 x0 929).bind fun t494 => (if t494 = true then (spec_wide.j1 k x0 true) else ((spec_between.f 931 x0 1013).bind fun t495 => (if t495 = true then (spec_wide.j1 k x0 true) else ((spec_between.f 1040 x0 1103).bind fun t496 => (if t496 = true then (spec_wide.j1 k x0 true) else ((spec_between.f 1488 x0 1514).bind fun t497 => (if t497 = true then (spec_wide.j1 k x0 true) else ((spec_between.f 12353 x0 12438).bind fun t498 => (if t498 = true then (spec_wide.j1 k x0 true) else ((spec_between.f 19968 x0 40959).bind fun t499 => (if t499 = true then (spec_wide.j1 k x0 true) else ((spec_between.f 44032 x0 55203).bind fun t500 => (if t500 = true then (spec_wide.j1 k x0 true) else ((spec_between.f 66560 x0 66717).bind fun t501 => (if t501 = true then (spec_wide.j1 k x0 true) else ((spec_between.f 131072 x0 173791).bind fun t502 => (spec_wide.j1 k x0 t502))))))))))))))))))
def spec_wide.j1 : Nat → Int → Bool → Option (Int)
  | 0, _, _ => none
  | k + 1, x0, x22 => if x22 = true then (some 2) else ((spec_Blank.f x0).bind fun t503 => (if t503 = true then (some 0) else ((spec_LineEnd.f x0).bind fun t504 => (if t504 = true then (some 0) else ((spec_between.f 8208 x0 8231).bind fun t505 => (if t505 = true then (some 0) else ((spec_between.f 8240 x0 8254).bind fun t506 => (if t506 = true then (some 0) else ((spec_between.f 8592 x0 11263).bind fun t507 => (if t507 = true then (some 0) else ((spec_between.f 55296 x0 63743).bind fun t508 => (if t508 = true then (some 0) else ((spec_between.f 65520 x0 65535).bind fun t509 => (if t509 = true then (some 0) else ((spec_between.f 127744 x0 128591).bind fun t510 => (if t510 = true then (some 0) else (some 3)))))))))))))))))
end
def spec_wide.f (k : Nat) (a0 : Int) : Option (Int) := (spec_between.f 768 a0 879).bind fun t493 => (if t493 = true then (spec_wide.j0 k a0 true) else (if a0 = 8204 then (spec_wide.j0 k a0 true) else (if a0 = 8205 then (spec_wide.j0 k a0 true) else (if a0 = 8255 then (spec_wide.j0 k a0 true) else (spec_wide.j0 k a0 (a0 == 8256))))))
theorem spec_wide.mono_l : ∀ k, (∀ y0 y1, LeO (spec_wide.j0 k y0 y1) (spec_wide.j0 (k + 1) y0 y1)) ∧ (∀ y0 y1, LeO (spec_wide.j1 k y0 y1) (spec_wide.j1 (k + 1) y0 y1))
  | 0 => ⟨fun _ _ r h => by simp [spec_wide.j0] at h, fun _ _ r h => by simp [spec_wide.j1] at h⟩
  | k + 1 => by
    obtain ⟨ih0, ih1⟩ := spec_wide.mono_l k
    refine ⟨?_, ?_⟩
    · intro y0 y1
      unfold spec_wide.j0
      repeat' first
      | (with_reducible exact ih0 _ _)
      | (with_reducible exact ih1 _ _)
      | (with_reducible exact LeO.refl _)
      | (with_reducible exact LeO.none _)
      | (with_reducible refine LeO.ite ?_ ?_)
      | (with_reducible refine LeO.bind ?_ (fun _ => ?_))
      | exact ih0 _ _
      | exact ih1 _ _
      | exact LeO.none _
      | refine LeO.ite ?_ ?_
      | refine LeO.bind ?_ (fun _ => ?_)
    · intro y0 y1
      unfold spec_wide.j1
      repeat' first
      | (with_reducible exact ih0 _ _)
      | (with_reducible exact ih1 _ _)
      | (with_reducible exact LeO.refl _)
      | (with_reducible exact LeO.none _)
      | (with_reducible refine LeO.ite ?_ ?_)
      | (with_reducible refine LeO.bind ?_ (fun _ => ?_))
      | exact ih0 _ _
      | exact ih1 _ _
      | exact LeO.none _
      | refine LeO.ite ?_ ?_
      | refine LeO.bind ?_ (fun _ => ?_)
theorem spec_wide.mono : ∀ a0 k, LeO (spec_wide.f k a0) (spec_wide.f (k + 1) a0) := by
  intro a0 k
  obtain ⟨ih0, ih1⟩ := spec_wide.mono_l k
  unfold spec_wide.f
  repeat' first
      | (with_reducible exact ih0 _ _)
      | (with_reducible exact ih1 _ _)
      | (with_reducible exact LeO.refl _)
      | (with_reducible exact LeO.none _)
      | (with_reducible refine LeO.ite ?_ ?_)
      | (with_reducible refine LeO.bind ?_ (fun _ => ?_))
      | exact ih0 _ _
      | exact ih1 _ _
      | exact LeO.none _
      | refine LeO.ite ?_ ?_
      | refine LeO.bind ?_ (fun _ => ?_)
set_option maxHeartbeats 8000000 in
set_option maxRecDepth 100000 in
theorem spec_wide.calls (k : Nat) (a0 : Int) (r : Int) (w : World) (h : spec_wide.f k a0 = some r) :
    Calls Tryd.prog 54 #[.int .i64 a0] w fun e w' => e = .returned (.int .i64 r) ∧ Drawn0 w w' := by
  have H : ((spec_between.f 768 a0 879).bind fun t493 => (if t493 = true then (spec_wide.j0 k a0 true) else (if a0 = 8204 then (spec_wide.j0 k a0 true) else (if a0 = 8205 then (spec_wide.j0 k a0 true) else (if a0 = 8255 then (spec_wide.j0 k a0 true) else (spec_wide.j0 k a0 (a0 == 8256))))))) = some r := h
  clear h
  have HC2 := Aside0.mk H
  clear H
  go_enter Tryd.func54, Tryd.ntmps54
  go_upto_region 1 with (fail)
  go_cut [3] (fun v3 wc => ∃ (kq : Nat) (x3_1 : Bool), v3 = .bool x3_1 ∧ Aside0 (spec_wide.j0 kq a0 x3_1 = some r) ∧ Aside0 (kq ≤ k) ∧ Drawn0 w wc)
  case first =>
    have H := HC2.out
    clear HC2
    replace H := Option.bind_eq_some_iff.mp H
    obtain ⟨t493, A30, H⟩ := H
    replace H : (if t493 = true then (spec_wide.j0 k a0 true) else (if a0 = 8204 then (spec_wide.j0 k a0 true) else (if a0 = 8205 then (spec_wide.j0 k a0 true) else (if a0 = 8255 then (spec_wide.j0 k a0 true) else (spec_wide.j0 k a0 (a0 == 8256)))))) = some r := H
    have A3 := Aside0.mk A30
    clear A30
    by_cases c4 : t493 = true
    · subst c4
      have H1 : (spec_wide.j0 k a0 true) = some r := by rw [if_pos rfl] at H; exact H
      clear H
      have H := H1
      clear H1
      have H' := Aside0.mk H
      clear H
      go_wp2_with (first | ((with_reducible refine gate_callee (f := 45) rfl ?_); refine goesL_ (some 5) rfl rfl Tryd.func45 (by kernel_rfl) rfl #[.int .i64 768, .int .i64 a0, .int .i64 879] rfl (by (try simp only [List.map_toArray, List.map_cons, List.map_nil]); first | done | rfl | (simp only [List.length_drop, List.length_take]; rfl)) ?_; (with_reducible refine (spec_between.calls 768 a0 879 true _ A3.out).mono ?_); rintro e w' ⟨rfl, ⟨nd, rfl⟩⟩; refine ⟨_, rfl, ?_⟩))
      go_meet
      case rel => exact ⟨_, (true), (by first | rfl | (simp; done) | (simp [*]; done)), H', ⟨by first | omega | exact Nat.le_refl _⟩, by repeat (first | exact Drawn0.refl _ | apply Drawn0.step)⟩
    · replace c4 := Bool.eq_false_iff.mpr c4
      subst c4
      have H1 : (if a0 = 8204 then (spec_wide.j0 k a0 true) else (if a0 = 8205 then (spec_wide.j0 k a0 true) else (if a0 = 8255 then (spec_wide.j0 k a0 true) else (spec_wide.j0 k a0 (a0 == 8256))))) = some r := by rw [if_neg (show ¬ (false = true) by decide)] at H; exact H
      clear H
      have H := H1
      clear H1
      by_cases c5 : a0 = 8204
      · rw [if_pos c5] at H
        have c5b0 : (a0 == 8204) = true := beq_iff_eq.mpr c5
        have c5b1 : (a0 != 8204) = false := bne_eq_false_iff_eq.mpr c5
        clear c5
        (first | rw [c5b0] | (simp only [i64_w, i32_w]; rw [c5b0]) | skip)
        have H' := Aside0.mk H
        clear H
        go_wp2_with (first | ((with_reducible refine gate_callee (f := 45) rfl ?_); refine goesL_ (some 5) rfl rfl Tryd.func45 (by kernel_rfl) rfl #[.int .i64 768, .int .i64 a0, .int .i64 879] rfl (by (try simp only [List.map_toArray, List.map_cons, List.map_nil]); first | done | rfl | (simp only [List.length_drop, List.length_take]; rfl)) ?_; (with_reducible refine (spec_between.calls 768 a0 879 false _ A3.out).mono ?_); rintro e w' ⟨rfl, ⟨nd, rfl⟩⟩; refine ⟨_, rfl, ?_⟩))
        go_meet
        case rel => exact ⟨_, (true), (by first | rfl | (simp; done) | (simp [*]; done)), H', ⟨by first | omega | exact Nat.le_refl _⟩, by repeat (first | exact Drawn0.refl _ | apply Drawn0.step)⟩
      · rw [if_neg c5] at H
        have c5b0 : (a0 == 8204) = false := beq_eq_false_iff_ne.mpr c5
        have c5b1 : (a0 != 8204) = true := bne_iff_ne.mpr c5
        (first | rw [c5b0] | (simp only [i64_w, i32_w]; rw [c5b0]) | skip)
        by_cases c6 : a0 = 8205
        · rw [if_pos c6] at H
          have c6b0 : (a0 == 8205) = true := beq_iff_eq.mpr c6
          have c6b1 : (a0 != 8205) = false := bne_eq_false_iff_eq.mpr c6
          clear c6
          have H' := Aside0.mk H
          clear H
          go_wp2_with (first | ((with_reducible refine gate_callee (f := 45) rfl ?_); refine goesL_ (some 5) rfl rfl Tryd.func45 (by kernel_rfl) rfl #[.int .i64 768, .int .i64 a0, .int .i64 879] rfl (by (try simp only [List.map_toArray, List.map_cons, List.map_nil]); first | done | rfl | (simp only [List.length_drop, List.length_take]; rfl)) ?_; (with_reducible refine (spec_between.calls 768 a0 879 false _ A3.out).mono ?_); rintro e w' ⟨rfl, ⟨nd, rfl⟩⟩; refine ⟨_, rfl, ?_⟩))
          go_meet
          case rel => exact ⟨_, (true), (by first | rfl | (simp; done) | (simp [*]; done)), H', ⟨by first | omega | exact Nat.le_refl _⟩, by repeat (first | exact Drawn0.refl _ | apply Drawn0.step)⟩
        · rw [if_neg c6] at H
          have c6b0 : (a0 == 8205) = false := beq_eq_false_iff_ne.mpr c6
          have c6b1 : (a0 != 8205) = true := bne_iff_ne.mpr c6
          by_cases c7 : a0 = 8255
          · rw [if_pos c7] at H
            have c7b0 : (a0 == 8255) = true := beq_iff_eq.mpr c7
            have c7b1 : (a0 != 8255) = false := bne_eq_false_iff_eq.mpr c7
            clear c7
            have H' := Aside0.mk H
            clear H
            go_wp2_with (first | ((with_reducible refine gate_callee (f := 45) rfl ?_); refine goesL_ (some 5) rfl rfl Tryd.func45 (by kernel_rfl) rfl #[.int .i64 768, .int .i64 a0, .int .i64 879] rfl (by (try simp only [List.map_toArray, List.map_cons, List.map_nil]); first | done | rfl | (simp only [List.length_drop, List.length_take]; rfl)) ?_; (with_reducible refine (spec_between.calls 768 a0 879 false _ A3.out).mono ?_); rintro e w' ⟨rfl, ⟨nd, rfl⟩⟩; refine ⟨_, rfl, ?_⟩))
            go_meet
            case rel => exact ⟨_, (true), (by first | rfl | (simp; done) | (simp [*]; done)), H', ⟨by first | omega | exact Nat.le_refl _⟩, by repeat (first | exact Drawn0.refl _ | apply Drawn0.step)⟩
          · rw [if_neg c7] at H
            have c7b0 : (a0 == 8255) = false := beq_eq_false_iff_ne.mpr c7
            have c7b1 : (a0 != 8255) = true := bne_iff_ne.mpr c7
            have H' := Aside0.mk H
            clear H
            go_wp2_with (first | ((with_reducible refine gate_callee (f := 45) rfl ?_); refine goesL_ (some 5) rfl rfl Tryd.func45 (by kernel_rfl) rfl #[.int .i64 768, .int .i64 a0, .int .i64 879] rfl (by (try simp only [List.map_toArray, List.map_cons, List.map_nil]); first | done | rfl | (simp only [List.length_drop, List.length_take]; rfl)) ?_; (with_reducible refine (spec_between.calls 768 a0 879 false _ A3.out).mono ?_); rintro e w' ⟨rfl, ⟨nd, rfl⟩⟩; refine ⟨_, rfl, ?_⟩))
            go_meet
            case rel => exact ⟨_, ((a0 == 8256)), (by first | rfl | (simp; done) | (simp [*]; done)), H', ⟨by first | omega | exact Nat.le_refl _⟩, by repeat (first | exact Drawn0.refl _ | apply Drawn0.step)⟩
  case rest =>
    clear HC2
    try clear p2
    try clear c4
    try clear c5
    try clear c5b0
    try clear c5b1
    try clear c6
    try clear c6b0
    try clear c6b1
    try clear c7
    try clear c7b0
    try clear c7b1
    obtain ⟨kq, x3_1, rfl, HA, HJ1, ⟨mc1, rfl⟩⟩ := hcut
    cases kq with
    | zero => exact absurd HA.out (by simp [spec_wide.j0])
    | succ kj1 =>
      have H := HA.out
      clear HA
      simp only [spec_wide.j0] at H
      by_cases c8 : x3_1 = true
      · subst c8
        have H1 : (some 1) = some r := by rw [if_pos rfl] at H; exact H
        clear H
        have H := H1
        clear H1
        obtain rfl := Option.some.inj H
        go_wp2
        go_ret
        exact ⟨by first | rfl | (simp; done) | (simp [*]; done), by repeat (first | exact Drawn0.refl _ | apply Drawn0.step)⟩
      · replace c8 := Bool.eq_false_iff.mpr c8
        subst c8
        have H1 : ((spec_between.f 913 a0 929).bind fun t494 => (if t494 = true then (spec_wide.j1 kj1 a0 true) else ((spec_between.f 931 a0 1013).bind fun t495 => (if t495 = true then (spec_wide.j1 kj1 a0 true) else ((spec_between.f 1040 a0 1103).bind fun t496 => (if t496 = true then (spec_wide.j1 kj1 a0 true) else ((spec_between.f 1488 a0 1514).bind fun t497 => (if t497 = true then (spec_wide.j1 kj1 a0 true) else ((spec_between.f 12353 a0 12438).bind fun t498 => (if t498 = true then (spec_wide.j1 kj1 a0 true) else ((spec_between.f 19968 a0 40959).bind fun t499 => (if t499 = true then (spec_wide.j1 kj1 a0 true) else ((spec_between.f 44032 a0 55203).bind fun t500 => (if t500 = true then (spec_wide.j1 kj1 a0 true) else ((spec_between.f 66560 a0 66717).bind fun t501 => (if t501 = true then (spec_wide.j1 kj1 a0 true) else ((spec_between.f 131072 a0 173791).bind fun t502 => (spec_wide.j1 kj1 a0 t502)))))))))))))))))) = some r := by rw [if_neg (show ¬ (false = true) by decide)] at H; exact H
        clear H
        have H := H1
        clear H1
        have HC9 := Aside0.mk H
        clear H
        go_upto_region 3 with (fail)
        go_cut [22] (fun v22 wc => ∃ (kq : Nat) (x22_8 : Bool), v22 = .bool x22_8 ∧ Aside0 (spec_wide.j1 kq a0 x22_8 = some r) ∧ Aside0 (kq ≤ kj1) ∧ Drawn0 w wc)
        case first =>
          have H := HC9.out
          clear HC9
          replace H := Option.bind_eq_some_iff.mp H
          obtain ⟨t494, A100, H⟩ := H
          replace H : (if t494 = true then (spec_wide.j1 kj1 a0 true) else ((spec_between.f 931 a0 1013).bind fun t495 => (if t495 = true then (spec_wide.j1 kj1 a0 true) else ((spec_between.f 1040 a0 1103).bind fun t496 => (if t496 = true then (spec_wide.j1 kj1 a0 true) else ((spec_between.f 1488 a0 1514).bind fun t497 => (if t497 = true then (spec_wide.j1 kj1 a0 true) else ((spec_between.f 12353 a0 12438).bind fun t498 => (if t498 = true then (spec_wide.j1 kj1 a0 true) else ((spec_between.f 19968 a0 40959).bind fun t499 => (if t499 = true then (spec_wide.j1 kj1 a0 true) else ((spec_between.f 44032 a0 55203).bind fun t500 => (if t500 = true then (spec_wide.j1 kj1 a0 true) else ((spec_between.f 66560 a0 66717).bind fun t501 => (if t501 = true then (spec_wide.j1 kj1 a0 true) else ((spec_between.f 131072 a0 173791).bind fun t502 => (spec_wide.j1 kj1 a0 t502))))))))))))))))) = some r := H
          have A10 := Aside0.mk A100
          clear A100
          by_cases c11 : t494 = true
          · subst c11
            have H1 : (spec_wide.j1 kj1 a0 true) = some r := by rw [if_pos rfl] at H; exact H
            clear H
            have H := H1
            clear H1
            have H' := Aside0.mk H
            clear H
            go_wp2_with (first | ((with_reducible refine gate_callee (f := 45) rfl ?_); refine goesL_ (some 24) rfl rfl Tryd.func45 (by kernel_rfl) rfl #[.int .i64 913, .int .i64 a0, .int .i64 929] rfl (by (try simp only [List.map_toArray, List.map_cons, List.map_nil]); first | done | rfl | (simp only [List.length_drop, List.length_take]; rfl)) ?_; (with_reducible refine (spec_between.calls 913 a0 929 true _ A10.out).mono ?_); rintro e w' ⟨rfl, ⟨nd, rfl⟩⟩; refine ⟨_, rfl, ?_⟩))
            go_meet
            case rel => exact ⟨_, (true), (by first | rfl | (simp; done) | (simp [*]; done)), H', ⟨by have := HJ1.out; first | omega | exact Nat.le_refl _⟩, by repeat (first | exact Drawn0.refl _ | apply Drawn0.step)⟩
          · replace c11 := Bool.eq_false_iff.mpr c11
            subst c11
            have H1 : ((spec_between.f 931 a0 1013).bind fun t495 => (if t495 = true then (spec_wide.j1 kj1 a0 true) else ((spec_between.f 1040 a0 1103).bind fun t496 => (if t496 = true then (spec_wide.j1 kj1 a0 true) else ((spec_between.f 1488 a0 1514).bind fun t497 => (if t497 = true then (spec_wide.j1 kj1 a0 true) else ((spec_between.f 12353 a0 12438).bind fun t498 => (if t498 = true then (spec_wide.j1 kj1 a0 true) else ((spec_between.f 19968 a0 40959).bind fun t499 => (if t499 = true then (spec_wide.j1 kj1 a0 true) else ((spec_between.f 44032 a0 55203).bind fun t500 => (if t500 = true then (spec_wide.j1 kj1 a0 true) else ((spec_between.f 66560 a0 66717).bind fun t501 => (if t501 = true then (spec_wide.j1 kj1 a0 true) else ((spec_between.f 131072 a0 173791).bind fun t502 => (spec_wide.j1 kj1 a0 t502)))))))))))))))) = some r := by rw [if_neg (show ¬ (false = true) by decide)] at H; exact H
            clear H
            have H := H1
            clear H1
            replace H := Option.bind_eq_some_iff.mp H
            obtain ⟨t495, A120, H⟩ := H
            replace H : (if t495 = true then (spec_wide.j1 kj1 a0 true) else ((spec_between.f 1040 a0 1103).bind fun t496 => (if t496 = true then (spec_wide.j1 kj1 a0 true) else ((spec_between.f 1488 a0 1514).bind fun t497 => (if t497 = true then (spec_wide.j1 kj1 a0 true) else ((spec_between.f 12353 a0 12438).bind fun t498 => (if t498 = true then (spec_wide.j1 kj1 a0 true) else ((spec_between.f 19968 a0 40959).bind fun t499 => (if t499 = true then (spec_wide.j1 kj1 a0 true) else ((spec_between.f 44032 a0 55203).bind fun t500 => (if t500 = true then (spec_wide.j1 kj1 a0 true) else ((spec_between.f 66560 a0 66717).bind fun t501 => (if t501 = true then (spec_wide.j1 kj1 a0 true) else ((spec_between.f 131072 a0 173791).bind fun t502 => (spec_wide.j1 kj1 a0 t502))))))))))))))) = some r := H
            have A12 := Aside0.mk A120
            clear A120
            by_cases c13 : t495 = true
            · subst c13
              have H1 : (spec_wide.j1 kj1 a0 true) = some r := by rw [if_pos rfl] at H; exact H
              clear H
              have H := H1
              clear H1
              have H' := Aside0.mk H
              clear H
              go_wp2_with (first | ((with_reducible refine gate_callee (f := 45) rfl ?_); refine goesL_ (some 24) rfl rfl Tryd.func45 (by kernel_rfl) rfl #[.int .i64 913, .int .i64 a0, .int .i64 929] rfl (by (try simp only [List.map_toArray, List.map_cons, List.map_nil]); first | done | rfl | (simp only [List.length_drop, List.length_take]; rfl)) ?_; (with_reducible refine (spec_between.calls 913 a0 929 false _ A10.out).mono ?_); rintro e w' ⟨rfl, ⟨nd, rfl⟩⟩; refine ⟨_, rfl, ?_⟩) | (go_at_call 45; (with_reducible refine (spec_between.calls 931 a0 1013 true _ A12.out).mono ?_); rintro e w' ⟨rfl, ⟨nd, rfl⟩⟩))
              go_meet
              case rel => exact ⟨_, (true), (by first | rfl | (simp; done) | (simp [*]; done)), H', ⟨by have := HJ1.out; first | omega | exact Nat.le_refl _⟩, by repeat (first | exact Drawn0.refl _ | apply Drawn0.step)⟩
            · replace c13 := Bool.eq_false_iff.mpr c13
              subst c13
              have H1 : ((spec_between.f 1040 a0 1103).bind fun t496 => (if t496 = true then (spec_wide.j1 kj1 a0 true) else ((spec_between.f 1488 a0 1514).bind fun t497 => (if t497 = true then (spec_wide.j1 kj1 a0 true) else ((spec_between.f 12353 a0 12438).bind fun t498 => (if t498 = true then (spec_wide.j1 kj1 a0 true) else ((spec_between.f 19968 a0 40959).bind fun t499 => (if t499 = true then (spec_wide.j1 kj1 a0 true) else ((spec_between.f 44032 a0 55203).bind fun t500 => (if t500 = true then (spec_wide.j1 kj1 a0 true) else ((spec_between.f 66560 a0 66717).bind fun t501 => (if t501 = true then (spec_wide.j1 kj1 a0 true) else ((spec_between.f 131072 a0 173791).bind fun t502 => (spec_wide.j1 kj1 a0 t502)))))))))))))) = some r := by rw [if_neg (show ¬ (false = true) by decide)] at H; exact H
              clear H
              have H := H1
              clear H1
              replace H := Option.bind_eq_some_iff.mp H
              obtain ⟨t496, A140, H⟩ := H
              replace H : (if t496 = true then (spec_wide.j1 kj1 a0 true) else ((spec_between.f 1488 a0 1514).bind fun t497 => (if t497 = true then (spec_wide.j1 kj1 a0 true) else ((spec_between.f 12353 a0 12438).bind fun t498 => (if t498 = true then (spec_wide.j1 kj1 a0 true) else ((spec_between.f 19968 a0 40959).bind fun t499 => (if t499 = true then (spec_wide.j1 kj1 a0 true) else ((spec_between.f 44032 a0 55203).bind fun t500 => (if t500 = true then (spec_wide.j1 kj1 a0 true) else ((spec_between.f 66560 a0 66717).bind fun t501 => (if t501 = true then (spec_wide.j1 kj1 a0 true) else ((spec_between.f 131072 a0 173791).bind fun t502 => (spec_wide.j1 kj1 a0 t502))))))))))))) = some r := H
              have A14 := Aside0.mk A140
              clear A140
              by_cases c15 : t496 = true
              · subst c15
                have H1 : (spec_wide.j1 kj1 a0 true) = some r := by rw [if_pos rfl] at H; exact H
                clear H
                have H := H1
                clear H1
                have H' := Aside0.mk H
                clear H
                go_wp2_with (first | ((with_reducible refine gate_callee (f := 45) rfl ?_); refine goesL_ (some 24) rfl rfl Tryd.func45 (by kernel_rfl) rfl #[.int .i64 913, .int .i64 a0, .int .i64 929] rfl (by (try simp only [List.map_toArray, List.map_cons, List.map_nil]); first | done | rfl | (simp only [List.length_drop, List.length_take]; rfl)) ?_; (with_reducible refine (spec_between.calls 913 a0 929 false _ A10.out).mono ?_); rintro e w' ⟨rfl, ⟨nd, rfl⟩⟩; refine ⟨_, rfl, ?_⟩) | (go_at_call 45; (with_reducible refine (spec_between.calls 931 a0 1013 false _ A12.out).mono ?_); rintro e w' ⟨rfl, ⟨nd, rfl⟩⟩) | (go_at_call 45; (with_reducible refine (spec_between.calls 1040 a0 1103 true _ A14.out).mono ?_); rintro e w' ⟨rfl, ⟨nd, rfl⟩⟩))
                go_meet
                case rel => exact ⟨_, (true), (by first | rfl | (simp; done) | (simp [*]; done)), H', ⟨by have := HJ1.out; first | omega | exact Nat.le_refl _⟩, by repeat (first | exact Drawn0.refl _ | apply Drawn0.step)⟩
              · replace c15 := Bool.eq_false_iff.mpr c15
                subst c15
                have H1 : ((spec_between.f 1488 a0 1514).bind fun t497 => (if t497 = true then (spec_wide.j1 kj1 a0 true) else ((spec_between.f 12353 a0 12438).bind fun t498 => (if t498 = true then (spec_wide.j1 kj1 a0 true) else ((spec_between.f 19968 a0 40959).bind fun t499 => (if t499 = true then (spec_wide.j1 kj1 a0 true) else ((spec_between.f 44032 a0 55203).bind fun t500 => (if t500 = true then (spec_wide.j1 kj1 a0 true) else ((spec_between.f 66560 a0 66717).bind fun t501 => (if t501 = true then (spec_wide.j1 kj1 a0 true) else ((spec_between.f 131072 a0 173791).bind fun t502 => (spec_wide.j1 kj1 a0 t502)))))))))))) = some r := by rw [if_neg (show ¬ (false = true) by decide)] at H; exact H
                clear H
                have H := H1
                clear H1
                replace H := Option.bind_eq_some_iff.mp H
                obtain ⟨t497, A160, H⟩ := H
                replace H : (if t497 = true then (spec_wide.j1 kj1 a0 true) else ((spec_between.f 12353 a0 12438).bind fun t498 => (if t498 = true then (spec_wide.j1 kj1 a0 true) else ((spec_between.f 19968 a0 40959).bind fun t499 => (if t499 = true then (spec_wide.j1 kj1 a0 true) else ((spec_between.f 44032 a0 55203).bind fun t500 => (if t500 = true then (spec_wide.j1 kj1 a0 true) else ((spec_between.f 66560 a0 66717).bind fun t501 => (if t501 = true then (spec_wide.j1 kj1 a0 true) else ((spec_between.f 131072 a0 173791).bind fun t502 => (spec_wide.j1 kj1 a0 t502))))))))))) = some r := H
                have A16 := Aside0.mk A160
                clear A160
                by_cases c17 : t497 = true
                · subst c17
                  have H1 : (spec_wide.j1 kj1 a0 true) = some r := by rw [if_pos rfl] at H; exact H
                  clear H
                  have H := H1
                  clear H1
                  have H' := Aside0.mk H
                  clear H
                  go_wp2_with (first | ((with_reducible refine gate_callee (f := 45) rfl ?_); refine goesL_ (some 24) rfl rfl Tryd.func45 (by kernel_rfl) rfl #[.int .i64 913, .int .i64 a0, .int .i64 929] rfl (by (try simp only [List.map_toArray, List.map_cons, List.map_nil]); first | done | rfl | (simp only [List.length_drop, List.length_take]; rfl)) ?_; (with_reducible refine (spec_between.calls 913 a0 929 false _ A10.out).mono ?_); rintro e w' ⟨rfl, ⟨nd, rfl⟩⟩; refine ⟨_, rfl, ?_⟩) | (go_at_call 45; (with_reducible refine (spec_between.calls 931 a0 1013 false _ A12.out).mono ?_); rintro e w' ⟨rfl, ⟨nd, rfl⟩⟩) | (go_at_call 45; (with_reducible refine (spec_between.calls 1040 a0 1103 false _ A14.out).mono ?_); rintro e w' ⟨rfl, ⟨nd, rfl⟩⟩) | (go_at_call 45; (with_reducible refine (spec_between.calls 1488 a0 1514 true _ A16.out).mono ?_); rintro e w' ⟨rfl, ⟨nd, rfl⟩⟩))
                  go_meet
                  case rel => exact ⟨_, (true), (by first | rfl | (simp; done) | (simp [*]; done)), H', ⟨by have := HJ1.out; first | omega | exact Nat.le_refl _⟩, by repeat (first | exact Drawn0.refl _ | apply Drawn0.step)⟩
                · replace c17 := Bool.eq_false_iff.mpr c17
                  subst c17
                  have H1 : ((spec_between.f 12353 a0 12438).bind fun t498 => (if t498 = true then (spec_wide.j1 kj1 a0 true) else ((spec_between.f 19968 a0 40959).bind fun t499 => (if t499 = true then (spec_wide.j1 kj1 a0 true) else ((spec_between.f 44032 a0 55203).bind fun t500 => (if t500 = true then (spec_wide.j1 kj1 a0 true) else ((spec_between.f 66560 a0 66717).bind fun t501 => (if t501 = true then (spec_wide.j1 kj1 a0 true) else ((spec_between.f 131072 a0 173791).bind fun t502 => (spec_wide.j1 kj1 a0 t502)))))))))) = some r := by rw [if_neg (show ¬ (false = true) by decide)] at H; exact H
                  clear H
                  have H := H1
                  clear H1
                  replace H := Option.bind_eq_some_iff.mp H
                  obtain ⟨t498, A180, H⟩ := H
                  replace H : (if t498 = true then (spec_wide.j1 kj1 a0 true) else ((spec_between.f 19968 a0 40959).bind fun t499 => (if t499 = true then (spec_wide.j1 kj1 a0 true) else ((spec_between.f 44032 a0 55203).bind fun t500 => (if t500 = true then (spec_wide.j1 kj1 a0 true) else ((spec_between.f 66560 a0 66717).bind fun t501 => (if t501 = true then (spec_wide.j1 kj1 a0 true) else ((spec_between.f 131072 a0 173791).bind fun t502 => (spec_wide.j1 kj1 a0 t502))))))))) = some r := H
                  have A18 := Aside0.mk A180
                  clear A180
                  by_cases c19 : t498 = true
                  · subst c19
                    have H1 : (spec_wide.j1 kj1 a0 true) = some r := by rw [if_pos rfl] at H; exact H
                    clear H
                    have H := H1
                    clear H1
                    have H' := Aside0.mk H
                    clear H
                    go_wp2_with (first | ((with_reducible refine gate_callee (f := 45) rfl ?_); refine goesL_ (some 24) rfl rfl Tryd.func45 (by kernel_rfl) rfl #[.int .i64 913, .int .i64 a0, .int .i64 929] rfl (by (try simp only [List.map_toArray, List.map_cons, List.map_nil]); first | done | rfl | (simp only [List.length_drop, List.length_take]; rfl)) ?_; (with_reducible refine (spec_between.calls 913 a0 929 false _ A10.out).mono ?_); rintro e w' ⟨rfl, ⟨nd, rfl⟩⟩; refine ⟨_, rfl, ?_⟩) | (go_at_call 45; (with_reducible refine (spec_between.calls 931 a0 1013 false _ A12.out).mono ?_); rintro e w' ⟨rfl, ⟨nd, rfl⟩⟩) | (go_at_call 45; (with_reducible refine (spec_between.calls 1040 a0 1103 false _ A14.out).mono ?_); rintro e w' ⟨rfl, ⟨nd, rfl⟩⟩) | (go_at_call 45; (with_reducible refine (spec_between.calls 1488 a0 1514 false _ A16.out).mono ?_); rintro e w' ⟨rfl, ⟨nd, rfl⟩⟩) | (go_at_call 45; (with_reducible refine (spec_between.calls 12353 a0 12438 true _ A18.out).mono ?_); rintro e w' ⟨rfl, ⟨nd, rfl⟩⟩))
                    go_meet
                    case rel => exact ⟨_, (true), (by first | rfl | (simp; done) | (simp [*]; done)), H', ⟨by have := HJ1.out; first | omega | exact Nat.le_refl _⟩, by repeat (first | exact Drawn0.refl _ | apply Drawn0.step)⟩
                  · replace c19 := Bool.eq_false_iff.mpr c19
                    subst c19
                    have H1 : ((spec_between.f 19968 a0 40959).bind fun t499 => (if t499 = true then (spec_wide.j1 kj1 a0 true) else ((spec_between.f 44032 a0 55203).bind fun t500 => (if t500 = true then (spec_wide.j1 kj1 a0 true) else ((spec_between.f 66560 a0 66717).bind fun t501 => (if t501 = true then (spec_wide.j1 kj1 a0 true) else ((spec_between.f 131072 a0 173791).bind fun t502 => (spec_wide.j1 kj1 a0 t502)))))))) = some r := by rw [if_neg (show ¬ (false = true) by decide)] at H; exact H
                    clear H
                    have H := H1
                    clear H1
                    replace H := Option.bind_eq_some_iff.mp H
                    obtain ⟨t499, A200, H⟩ := H
                    replace H : (if t499 = true then (spec_wide.j1 kj1 a0 true) else ((spec_between.f 44032 a0 55203).bind fun t500 => (if t500 = true then (spec_wide.j1 kj1 a0 true) else ((spec_between.f 66560 a0 66717).bind fun t501 => (if t501 = true then (spec_wide.j1 kj1 a0 true) else ((spec_between.f 131072 a0 173791).bind fun t502 => (spec_wide.j1 kj1 a0 t502))))))) = some r := H
                    have A20 := Aside0.mk A200
                    clear A200
                    by_cases c21 : t499 = true
                    · subst c21
                      have H1 : (spec_wide.j1 kj1 a0 true) = some r := by rw [if_pos rfl] at H; exact H
                      clear H
                      have H := H1
                      clear H1
                      have H' := Aside0.mk H
                      clear H
                      go_wp2_with (first | ((with_reducible refine gate_callee (f := 45) rfl ?_); refine goesL_ (some 24) rfl rfl Tryd.func45 (by kernel_rfl) rfl #[.int .i64 913, .int .i64 a0, .int .i64 929] rfl (by (try simp only [List.map_toArray, List.map_cons, List.map_nil]); first | done | rfl | (simp only [List.length_drop, List.length_take]; rfl)) ?_; (with_reducible refine (spec_between.calls 913 a0 929 false _ A10.out).mono ?_); rintro e w' ⟨rfl, ⟨nd, rfl⟩⟩; refine ⟨_, rfl, ?_⟩) | (go_at_call 45; (with_reducible refine (spec_between.calls 931 a0 1013 false _ A12.out).mono ?_); rintro e w' ⟨rfl, ⟨nd, rfl⟩⟩) | (go_at_call 45; (with_reducible refine (spec_between.calls 1040 a0 1103 false _ A14.out).mono ?_); rintro e w' ⟨rfl, ⟨nd, rfl⟩⟩) | (go_at_call 45; (with_reducible refine (spec_between.calls 1488 a0 1514 false _ A16.out).mono ?_); rintro e w' ⟨rfl, ⟨nd, rfl⟩⟩) | (go_at_call 45; (with_reducible refine (spec_between.calls 12353 a0 12438 false _ A18.out).mono ?_); rintro e w' ⟨rfl, ⟨nd, rfl⟩⟩) | (go_at_call 45; (with_reducible refine (spec_between.calls 19968 a0 40959 true _ A20.out).mono ?_); rintro e w' ⟨rfl, ⟨nd, rfl⟩⟩))
                      go_meet
                      case rel => exact ⟨_, (true), (by first | rfl | (simp; done) | (simp [*]; done)), H', ⟨by have := HJ1.out; first | omega | exact Nat.le_refl _⟩, by repeat (first | exact Drawn0.refl _ | apply Drawn0.step)⟩
                    · replace c21 := Bool.eq_false_iff.mpr c21
                      subst c21
                      have H1 : ((spec_between.f 44032 a0 55203).bind fun t500 => (if t500 = true then (spec_wide.j1 kj1 a0 true) else ((spec_between.f 66560 a0 66717).bind fun t501 => (if t501 = true then (spec_wide.j1 kj1 a0 true) else ((spec_between.f 131072 a0 173791).bind fun t502 => (spec_wide.j1 kj1 a0 t502)))))) = some r := by rw [if_neg (show ¬ (false = true) by decide)] at H; exact H
                      clear H
                      have H := H1
                      clear H1
                      replace H := Option.bind_eq_some_iff.mp H
                      obtain ⟨t500, A220, H⟩ := H
                      replace H : (if t500 = true then (spec_wide.j1 kj1 a0 true) else ((spec_between.f 66560 a0 66717).bind fun t501 => (if t501 = true then (spec_wide.j1 kj1 a0 true) else ((spec_between.f 131072 a0 173791).bind fun t502 => (spec_wide.j1 kj1 a0 t502))))) = some r := H
                      have A22 := Aside0.mk A220
                      clear A220
                      by_cases c23 : t500 = true
                      · subst c23
                        have H1 : (spec_wide.j1 kj1 a0 true) = some r := by rw [if_pos rfl] at H; exact H
                        clear H
                        have H := H1
                        clear H1
                        have H' := Aside0.mk H
                        clear H
                        go_wp2_with (first | ((with_reducible refine gate_callee (f := 45) rfl ?_); refine goesL_ (some 24) rfl rfl Tryd.func45 (by kernel_rfl) rfl #[.int .i64 913, .int .i64 a0, .int .i64 929] rfl (by (try simp only [List.map_toArray, List.map_cons, List.map_nil]); first | done | rfl | (simp only [List.length_drop, List.length_take]; rfl)) ?_; (with_reducible refine (spec_between.calls 913 a0 929 false _ A10.out).mono ?_); rintro e w' ⟨rfl, ⟨nd, rfl⟩⟩; refine ⟨_, rfl, ?_⟩) | (go_at_call 45; (with_reducible refine (spec_between.calls 931 a0 1013 false _ A12.out).mono ?_); rintro e w' ⟨rfl, ⟨nd, rfl⟩⟩) | (go_at_call 45; (with_reducible refine (spec_between.calls 1040 a0 1103 false _ A14.out).mono ?_); rintro e w' ⟨rfl, ⟨nd, rfl⟩⟩) | (go_at_call 45; (with_reducible refine (spec_between.calls 1488 a0 1514 false _ A16.out).mono ?_); rintro e w' ⟨rfl, ⟨nd, rfl⟩⟩) | (go_at_call 45; (with_reducible refine (spec_between.calls 12353 a0 12438 false _ A18.out).mono ?_); rintro e w' ⟨rfl, ⟨nd, rfl⟩⟩) | (go_at_call 45; (with_reducible refine (spec_between.calls 19968 a0 40959 false _ A20.out).mono ?_); rintro e w' ⟨rfl, ⟨nd, rfl⟩⟩) | (go_at_call 45; (with_reducible refine (spec_between.calls 44032 a0 55203 true _ A22.out).mono ?_); rintro e w' ⟨rfl, ⟨nd, rfl⟩⟩))
                        go_meet
                        case rel => exact ⟨_, (true), (by first | rfl | (simp; done) | (simp [*]; done)), H', ⟨by have := HJ1.out; first | omega | exact Nat.le_refl _⟩, by repeat (first | exact Drawn0.refl _ | apply Drawn0.step)⟩
                      · replace c23 := Bool.eq_false_iff.mpr c23
                        subst c23
                        have H1 : ((spec_between.f 66560 a0 66717).bind fun t501 => (if t501 = true then (spec_wide.j1 kj1 a0 true) else ((spec_between.f 131072 a0 173791).bind fun t502 => (spec_wide.j1 kj1 a0 t502)))) = some r := by rw [if_neg (show ¬ (false = true) by decide)] at H; exact H
                        clear H
                        have H := H1
                        clear H1
                        replace H := Option.bind_eq_some_iff.mp H
                        obtain ⟨t501, A240, H⟩ := H
                        replace H : (if t501 = true then (spec_wide.j1 kj1 a0 true) else ((spec_between.f 131072 a0 173791).bind fun t502 => (spec_wide.j1 kj1 a0 t502))) = some r := H
                        have A24 := Aside0.mk A240
                        clear A240
                        by_cases c25 : t501 = true
                        · subst c25
                          have H1 : (spec_wide.j1 kj1 a0 true) = some r := by rw [if_pos rfl] at H; exact H
                          clear H
                          have H := H1
                          clear H1
                          have H' := Aside0.mk H
                          clear H
                          go_wp2_with (first | ((with_reducible refine gate_callee (f := 45) rfl ?_); refine goesL_ (some 24) rfl rfl Tryd.func45 (by kernel_rfl) rfl #[.int .i64 913, .int .i64 a0, .int .i64 929] rfl (by (try simp only [List.map_toArray, List.map_cons, List.map_nil]); first | done | rfl | (simp only [List.length_drop, List.length_take]; rfl)) ?_; (with_reducible refine (spec_between.calls 913 a0 929 false _ A10.out).mono ?_); rintro e w' ⟨rfl, ⟨nd, rfl⟩⟩; refine ⟨_, rfl, ?_⟩) | (go_at_call 45; (with_reducible refine (spec_between.calls 931 a0 1013 false _ A12.out).mono ?_); rintro e w' ⟨rfl, ⟨nd, rfl⟩⟩) | (go_at_call 45; (with_reducible refine (spec_between.calls 1040 a0 1103 false _ A14.out).mono ?_); rintro e w' ⟨rfl, ⟨nd, rfl⟩⟩) | (go_at_call 45; (with_reducible refine (spec_between.calls 1488 a0 1514 false _ A16.out).mono ?_); rintro e w' ⟨rfl, ⟨nd, rfl⟩⟩) | (go_at_call 45; (with_reducible refine (spec_between.calls 12353 a0 12438 false _ A18.out).mono ?_); rintro e w' ⟨rfl, ⟨nd, rfl⟩⟩) | (go_at_call 45; (with_reducible refine (spec_between.calls 19968 a0 40959 false _ A20.out).mono ?_); rintro e w' ⟨rfl, ⟨nd, rfl⟩⟩) | (go_at_call 45; (with_reducible refine (spec_between.calls 44032 a0 55203 false _ A22.out).mono ?_); rintro e w' ⟨rfl, ⟨nd, rfl⟩⟩) | (go_at_call 45; (with_reducible refine (spec_between.calls 66560 a0 66717 true _ A24.out).mono ?_); rintro e w' ⟨rfl, ⟨nd, rfl⟩⟩))
                          go_meet
                          case rel => exact ⟨_, (true), (by first | rfl | (simp; done) | (simp [*]; done)), H', ⟨by have := HJ1.out; first | omega | exact Nat.le_refl _⟩, by repeat (first | exact Drawn0.refl _ | apply Drawn0.step)⟩
                        · replace c25 := Bool.eq_false_iff.mpr c25
                          subst c25
                          have H1 : ((spec_between.f 131072 a0 173791).bind fun t502 => (spec_wide.j1 kj1 a0 t502)) = some r := by rw [if_neg (show ¬ (false = true) by decide)] at H; exact H
                          clear H
                          have H := H1
                          clear H1
                          replace H := Option.bind_eq_some_iff.mp H
                          obtain ⟨t502, A260, H⟩ := H
                          replace H : (spec_wide.j1 kj1 a0 t502) = some r := H
                          have A26 := Aside0.mk A260
                          clear A260
                          have H' := Aside0.mk H
                          clear H
                          go_wp2_with (first | ((with_reducible refine gate_callee (f := 45) rfl ?_); refine goesL_ (some 24) rfl rfl Tryd.func45 (by kernel_rfl) rfl #[.int .i64 913, .int .i64 a0, .int .i64 929] rfl (by (try simp only [List.map_toArray, List.map_cons, List.map_nil]); first | done | rfl | (simp only [List.length_drop, List.length_take]; rfl)) ?_; (with_reducible refine (spec_between.calls 913 a0 929 false _ A10.out).mono ?_); rintro e w' ⟨rfl, ⟨nd, rfl⟩⟩; refine ⟨_, rfl, ?_⟩) | (go_at_call 45; (with_reducible refine (spec_between.calls 931 a0 1013 false _ A12.out).mono ?_); rintro e w' ⟨rfl, ⟨nd, rfl⟩⟩) | (go_at_call 45; (with_reducible refine (spec_between.calls 1040 a0 1103 false _ A14.out).mono ?_); rintro e w' ⟨rfl, ⟨nd, rfl⟩⟩) | (go_at_call 45; (with_reducible refine (spec_between.calls 1488 a0 1514 false _ A16.out).mono ?_); rintro e w' ⟨rfl, ⟨nd, rfl⟩⟩) | (go_at_call 45; (with_reducible refine (spec_between.calls 12353 a0 12438 false _ A18.out).mono ?_); rintro e w' ⟨rfl, ⟨nd, rfl⟩⟩) | (go_at_call 45; (with_reducible refine (spec_between.calls 19968 a0 40959 false _ A20.out).mono ?_); rintro e w' ⟨rfl, ⟨nd, rfl⟩⟩) | (go_at_call 45; (with_reducible refine (spec_between.calls 44032 a0 55203 false _ A22.out).mono ?_); rintro e w' ⟨rfl, ⟨nd, rfl⟩⟩) | (go_at_call 45; (with_reducible refine (spec_between.calls 66560 a0 66717 false _ A24.out).mono ?_); rintro e w' ⟨rfl, ⟨nd, rfl⟩⟩) | (go_at_call 45; (with_reducible refine (spec_between.calls 131072 a0 173791 t502 _ A26.out).mono ?_); rintro e w' ⟨rfl, ⟨nd, rfl⟩⟩))
                          go_meet
                          case rel => exact ⟨_, (t502), (by first | rfl | (simp; done) | (simp [*]; done)), H', ⟨by have := HJ1.out; first | omega | exact Nat.le_refl _⟩, by repeat (first | exact Drawn0.refl _ | apply Drawn0.step)⟩
        case rest =>
          clear HC9
          try clear c1
          try clear c2
          try clear p2
          try clear c4
          try clear c5
          try clear c5b0
          try clear c5b1
          try clear c6
          try clear c6b0
          try clear c6b1
          try clear c7
          try clear c7b0
          try clear c7b1
          try clear c8
          try clear c11
          try clear c13
          try clear c15
          try clear c17
          try clear c19
          try clear c21
          try clear c23
          try clear c25
          try clear p2
          obtain ⟨kq, x22_8, rfl, HA, HJ8, ⟨mc8, rfl⟩⟩ := hcut
          cases kq with
          | zero => exact absurd HA.out (by simp [spec_wide.j1])
          | succ kj8 =>
            have H := HA.out
            clear HA
            simp only [spec_wide.j1] at H
            by_cases c27 : x22_8 = true
            · subst c27
              have H1 : (some 2) = some r := by rw [if_pos rfl] at H; exact H
              clear H
              have H := H1
              clear H1
              obtain rfl := Option.some.inj H
              go_wp2
              go_ret
              exact ⟨by first | rfl | (simp; done) | (simp [*]; done), by repeat (first | exact Drawn0.refl _ | apply Drawn0.step)⟩
            · replace c27 := Bool.eq_false_iff.mpr c27
              subst c27
              have H1 : ((spec_Blank.f a0).bind fun t503 => (if t503 = true then (some 0) else ((spec_LineEnd.f a0).bind fun t504 => (if t504 = true then (some 0) else ((spec_between.f 8208 a0 8231).bind fun t505 => (if t505 = true then (some 0) else ((spec_between.f 8240 a0 8254).bind fun t506 => (if t506 = true then (some 0) else ((spec_between.f 8592 a0 11263).bind fun t507 => (if t507 = true then (some 0) else ((spec_between.f 55296 a0 63743).bind fun t508 => (if t508 = true then (some 0) else ((spec_between.f 65520 a0 65535).bind fun t509 => (if t509 = true then (some 0) else ((spec_between.f 127744 a0 128591).bind fun t510 => (if t510 = true then (some 0) else (some 3))))))))))))))))) = some r := by rw [if_neg (show ¬ (false = true) by decide)] at H; exact H
              clear H
              have H := H1
              clear H1
              replace H := Option.bind_eq_some_iff.mp H
              obtain ⟨t503, A280, H⟩ := H
              replace H : (if t503 = true then (some 0) else ((spec_LineEnd.f a0).bind fun t504 => (if t504 = true then (some 0) else ((spec_between.f 8208 a0 8231).bind fun t505 => (if t505 = true then (some 0) else ((spec_between.f 8240 a0 8254).bind fun t506 => (if t506 = true then (some 0) else ((spec_between.f 8592 a0 11263).bind fun t507 => (if t507 = true then (some 0) else ((spec_between.f 55296 a0 63743).bind fun t508 => (if t508 = true then (some 0) else ((spec_between.f 65520 a0 65535).bind fun t509 => (if t509 = true then (some 0) else ((spec_between.f 127744 a0 128591).bind fun t510 => (if t510 = true then (some 0) else (some 3)))))))))))))))) = some r := H
              have A28 := Aside0.mk A280
              clear A280
              by_cases c29 : t503 = true
              · subst c29
                have H1 : (some 0) = some r := by rw [if_pos rfl] at H; exact H
                clear H
                have H := H1
                clear H1
                obtain rfl := Option.some.inj H
                go_wp2_with (first | ((with_reducible refine gate_callee (f := 29) rfl ?_); refine goesL_ (some 59) rfl rfl Tryd.func29 (by kernel_rfl) rfl #[.int .i64 a0] rfl (by (try simp only [List.map_toArray, List.map_cons, List.map_nil]); first | done | rfl | (simp only [List.length_drop, List.length_take]; rfl)) ?_; (with_reducible refine (spec_Blank.calls a0 true _ A28.out).mono ?_); rintro e w' ⟨rfl, ⟨nd, rfl⟩⟩; refine ⟨_, rfl, ?_⟩))
                go_ret
                exact ⟨by first | rfl | (simp; done) | (simp [*]; done), by repeat (first | exact Drawn0.refl _ | apply Drawn0.step)⟩
              · replace c29 := Bool.eq_false_iff.mpr c29
                subst c29
                have H1 : ((spec_LineEnd.f a0).bind fun t504 => (if t504 = true then (some 0) else ((spec_between.f 8208 a0 8231).bind fun t505 => (if t505 = true then (some 0) else ((spec_between.f 8240 a0 8254).bind fun t506 => (if t506 = true then (some 0) else ((spec_between.f 8592 a0 11263).bind fun t507 => (if t507 = true then (some 0) else ((spec_between.f 55296 a0 63743).bind fun t508 => (if t508 = true then (some 0) else ((spec_between.f 65520 a0 65535).bind fun t509 => (if t509 = true then (some 0) else ((spec_between.f 127744 a0 128591).bind fun t510 => (if t510 = true then (some 0) else (some 3))))))))))))))) = some r := by rw [if_neg (show ¬ (false = true) by decide)] at H; exact H
                clear H
                have H := H1
                clear H1
                replace H := Option.bind_eq_some_iff.mp H
                obtain ⟨t504, A300, H⟩ := H
                replace H : (if t504 = true then (some 0) else ((spec_between.f 8208 a0 8231).bind fun t505 => (if t505 = true then (some 0) else ((spec_between.f 8240 a0 8254).bind fun t506 => (if t506 = true then (some 0) else ((spec_between.f 8592 a0 11263).bind fun t507 => (if t507 = true then (some 0) else ((spec_between.f 55296 a0 63743).bind fun t508 => (if t508 = true then (some 0) else ((spec_between.f 65520 a0 65535).bind fun t509 => (if t509 = true then (some 0) else ((spec_between.f 127744 a0 128591).bind fun t510 => (if t510 = true then (some 0) else (some 3)))))))))))))) = some r := H
                have A30 := Aside0.mk A300
                clear A300
                by_cases c31 : t504 = true
                · subst c31
                  have H1 : (some 0) = some r := by rw [if_pos rfl] at H; exact H
                  clear H
                  have H := H1
                  clear H1
                  obtain rfl := Option.some.inj H
                  go_wp2_with (first | ((with_reducible refine gate_callee (f := 29) rfl ?_); refine goesL_ (some 59) rfl rfl Tryd.func29 (by kernel_rfl) rfl #[.int .i64 a0] rfl (by (try simp only [List.map_toArray, List.map_cons, List.map_nil]); first | done | rfl | (simp only [List.length_drop, List.length_take]; rfl)) ?_; (with_reducible refine (spec_Blank.calls a0 false _ A28.out).mono ?_); rintro e w' ⟨rfl, ⟨nd, rfl⟩⟩; refine ⟨_, rfl, ?_⟩) | (go_at_call 28; (with_reducible refine (spec_LineEnd.calls a0 true _ A30.out).mono ?_); rintro e w' ⟨rfl, ⟨nd, rfl⟩⟩))
                  go_ret
                  exact ⟨by first | rfl | (simp; done) | (simp [*]; done), by repeat (first | exact Drawn0.refl _ | apply Drawn0.step)⟩
                · replace c31 := Bool.eq_false_iff.mpr c31
                  subst c31
                  have H1 : ((spec_between.f 8208 a0 8231).bind fun t505 => (if t505 = true then (some 0) else ((spec_between.f 8240 a0 8254).bind fun t506 => (if t506 = true then (some 0) else ((spec_between.f 8592 a0 11263).bind fun t507 => (if t507 = true then (some 0) else ((spec_between.f 55296 a0 63743).bind fun t508 => (if t508 = true then (some 0) else ((spec_between.f 65520 a0 65535).bind fun t509 => (if t509 = true then (some 0) else ((spec_between.f 127744 a0 128591).bind fun t510 => (if t510 = true then (some 0) else (some 3))))))))))))) = some r := by rw [if_neg (show ¬ (false = true) by decide)] at H; exact H
                  clear H
                  have H := H1
                  clear H1
                  replace H := Option.bind_eq_some_iff.mp H
                  obtain ⟨t505, A320, H⟩ := H
                  replace H : (if t505 = true then (some 0) else ((spec_between.f 8240 a0 8254).bind fun t506 => (if t506 = true then (some 0) else ((spec_between.f 8592 a0 11263).bind fun t507 => (if t507 = true then (some 0) else ((spec_between.f 55296 a0 63743).bind fun t508 => (if t508 = true then (some 0) else ((spec_between.f 65520 a0 65535).bind fun t509 => (if t509 = true then (some 0) else ((spec_between.f 127744 a0 128591).bind fun t510 => (if t510 = true then (some 0) else (some 3)))))))))))) = some r := H
                  have A32 := Aside0.mk A320
                  clear A320
                  by_cases c33 : t505 = true
                  · subst c33
                    have H1 : (some 0) = some r := by rw [if_pos rfl] at H; exact H
                    clear H
                    have H := H1
                    clear H1
                    obtain rfl := Option.some.inj H
                    go_wp2_with (first | ((with_reducible refine gate_callee (f := 29) rfl ?_); refine goesL_ (some 59) rfl rfl Tryd.func29 (by kernel_rfl) rfl #[.int .i64 a0] rfl (by (try simp only [List.map_toArray, List.map_cons, List.map_nil]); first | done | rfl | (simp only [List.length_drop, List.length_take]; rfl)) ?_; (with_reducible refine (spec_Blank.calls a0 false _ A28.out).mono ?_); rintro e w' ⟨rfl, ⟨nd, rfl⟩⟩; refine ⟨_, rfl, ?_⟩) | (go_at_call 28; (with_reducible refine (spec_LineEnd.calls a0 false _ A30.out).mono ?_); rintro e w' ⟨rfl, ⟨nd, rfl⟩⟩) | (go_at_call 45; (with_reducible refine (spec_between.calls 8208 a0 8231 true _ A32.out).mono ?_); rintro e w' ⟨rfl, ⟨nd, rfl⟩⟩))
                    go_ret
                    exact ⟨by first | rfl | (simp; done) | (simp [*]; done), by repeat (first | exact Drawn0.refl _ | apply Drawn0.step)⟩
                  · replace c33 := Bool.eq_false_iff.mpr c33
                    subst c33
                    have H1 : ((spec_between.f 8240 a0 8254).bind fun t506 => (if t506 = true then (some 0) else ((spec_between.f 8592 a0 11263).bind fun t507 => (if t507 = true then (some 0) else ((spec_between.f 55296 a0 63743).bind fun t508 => (if t508 = true then (some 0) else ((spec_between.f 65520 a0 65535).bind fun t509 => (if t509 = true then (some 0) else ((spec_between.f 127744 a0 128591).bind fun t510 => (if t510 = true then (some 0) else (some 3))))))))))) = some r := by rw [if_neg (show ¬ (false = true) by decide)] at H; exact H
                    clear H
                    have H := H1
                    clear H1
                    replace H := Option.bind_eq_some_iff.mp H
                    obtain ⟨t506, A340, H⟩ := H
                    replace H : (if t506 = true then (some 0) else ((spec_between.f 8592 a0 11263).bind fun t507 => (if t507 = true then (some 0) else ((spec_between.f 55296 a0 63743).bind fun t508 => (if t508 = true then (some 0) else ((spec_between.f 65520 a0 65535).bind fun t509 => (if t509 = true then (some 0) else ((spec_between.f 127744 a0 128591).bind fun t510 => (if t510 = true then (some 0) else (some 3)))))))))) = some r := H
                    have A34 := Aside0.mk A340
                    clear A340
                    by_cases c35 : t506 = true
                    · subst c35
                      have H1 : (some 0) = some r := by rw [if_pos rfl] at H; exact H
                      clear H
                      have H := H1
                      clear H1
                      obtain rfl := Option.some.inj H
                      go_wp2_with (first | ((with_reducible refine gate_callee (f := 29) rfl ?_); refine goesL_ (some 59) rfl rfl Tryd.func29 (by kernel_rfl) rfl #[.int .i64 a0] rfl (by (try simp only [List.map_toArray, List.map_cons, List.map_nil]); first | done | rfl | (simp only [List.length_drop, List.length_take]; rfl)) ?_; (with_reducible refine (spec_Blank.calls a0 false _ A28.out).mono ?_); rintro e w' ⟨rfl, ⟨nd, rfl⟩⟩; refine ⟨_, rfl, ?_⟩) | (go_at_call 28; (with_reducible refine (spec_LineEnd.calls a0 false _ A30.out).mono ?_); rintro e w' ⟨rfl, ⟨nd, rfl⟩⟩) | (go_at_call 45; (with_reducible refine (spec_between.calls 8208 a0 8231 false _ A32.out).mono ?_); rintro e w' ⟨rfl, ⟨nd, rfl⟩⟩) | (go_at_call 45; (with_reducible refine (spec_between.calls 8240 a0 8254 true _ A34.out).mono ?_); rintro e w' ⟨rfl, ⟨nd, rfl⟩⟩))
                      go_ret
                      exact ⟨by first | rfl | (simp; done) | (simp [*]; done), by repeat (first | exact Drawn0.refl _ | apply Drawn0.step)⟩
                    · replace c35 := Bool.eq_false_iff.mpr c35
                      subst c35
                      have H1 : ((spec_between.f 8592 a0 11263).bind fun t507 => (if t507 = true then (some 0) else ((spec_between.f 55296 a0 63743).bind fun t508 => (if t508 = true then (some 0) else ((spec_between.f 65520 a0 65535).bind fun t509 => (if t509 = true then (some 0) else ((spec_between.f 127744 a0 128591).bind fun t510 => (if t510 = true then (some 0) else (some 3))))))))) = some r := by rw [if_neg (show ¬ (false = true) by decide)] at H; exact H
                      clear H
                      have H := H1
                      clear H1
                      replace H := Option.bind_eq_some_iff.mp H
                      obtain ⟨t507, A360, H⟩ := H
                      replace H : (if t507 = true then (some 0) else ((spec_between.f 55296 a0 63743).bind fun t508 => (if t508 = true then (some 0) else ((spec_between.f 65520 a0 65535).bind fun t509 => (if t509 = true then (some 0) else ((spec_between.f 127744 a0 128591).bind fun t510 => (if t510 = true then (some 0) else (some 3)))))))) = some r := H
                      have A36 := Aside0.mk A360
                      clear A360
                      by_cases c37 : t507 = true
                      · subst c37
                        have H1 : (some 0) = some r := by rw [if_pos rfl] at H; exact H
                        clear H
                        have H := H1
                        clear H1
                        obtain rfl := Option.some.inj H
                        go_wp2_with (first | ((with_reducible refine gate_callee (f := 29) rfl ?_); refine goesL_ (some 59) rfl rfl Tryd.func29 (by kernel_rfl) rfl #[.int .i64 a0] rfl (by (try simp only [List.map_toArray, List.map_cons, List.map_nil]); first | done | rfl | (simp only [List.length_drop, List.length_take]; rfl)) ?_; (with_reducible refine (spec_Blank.calls a0 false _ A28.out).mono ?_); rintro e w' ⟨rfl, ⟨nd, rfl⟩⟩; refine ⟨_, rfl, ?_⟩) | (go_at_call 28; (with_reducible refine (spec_LineEnd.calls a0 false _ A30.out).mono ?_); rintro e w' ⟨rfl, ⟨nd, rfl⟩⟩) | (go_at_call 45; (with_reducible refine (spec_between.calls 8208 a0 8231 false _ A32.out).mono ?_); rintro e w' ⟨rfl, ⟨nd, rfl⟩⟩) | (go_at_call 45; (with_reducible refine (spec_between.calls 8240 a0 8254 false _ A34.out).mono ?_); rintro e w' ⟨rfl, ⟨nd, rfl⟩⟩) | (go_at_call 45; (with_reducible refine (spec_between.calls 8592 a0 11263 true _ A36.out).mono ?_); rintro e w' ⟨rfl, ⟨nd, rfl⟩⟩))
                        go_ret
                        exact ⟨by first | rfl | (simp; done) | (simp [*]; done), by repeat (first | exact Drawn0.refl _ | apply Drawn0.step)⟩
                      · replace c37 := Bool.eq_false_iff.mpr c37
                        subst c37
                        have H1 : ((spec_between.f 55296 a0 63743).bind fun t508 => (if t508 = true then (some 0) else ((spec_between.f 65520 a0 65535).bind fun t509 => (if t509 = true then (some 0) else ((spec_between.f 127744 a0 128591).bind fun t510 => (if t510 = true then (some 0) else (some 3))))))) = some r := by rw [if_neg (show ¬ (false = true) by decide)] at H; exact H
                        clear H
                        have H := H1
                        clear H1
                        replace H := Option.bind_eq_some_iff.mp H
                        obtain ⟨t508, A380, H⟩ := H
                        replace H : (if t508 = true then (some 0) else ((spec_between.f 65520 a0 65535).bind fun t509 => (if t509 = true then (some 0) else ((spec_between.f 127744 a0 128591).bind fun t510 => (if t510 = true then (some 0) else (some 3)))))) = some r := H
                        have A38 := Aside0.mk A380
                        clear A380
                        by_cases c39 : t508 = true
                        · subst c39
                          have H1 : (some 0) = some r := by rw [if_pos rfl] at H; exact H
                          clear H
                          have H := H1
                          clear H1
                          obtain rfl := Option.some.inj H
                          go_wp2_with (first | ((with_reducible refine gate_callee (f := 29) rfl ?_); refine goesL_ (some 59) rfl rfl Tryd.func29 (by kernel_rfl) rfl #[.int .i64 a0] rfl (by (try simp only [List.map_toArray, List.map_cons, List.map_nil]); first | done | rfl | (simp only [List.length_drop, List.length_take]; rfl)) ?_; (with_reducible refine (spec_Blank.calls a0 false _ A28.out).mono ?_); rintro e w' ⟨rfl, ⟨nd, rfl⟩⟩; refine ⟨_, rfl, ?_⟩) | (go_at_call 28; (with_reducible refine (spec_LineEnd.calls a0 false _ A30.out).mono ?_); rintro e w' ⟨rfl, ⟨nd, rfl⟩⟩) | (go_at_call 45; (with_reducible refine (spec_between.calls 8208 a0 8231 false _ A32.out).mono ?_); rintro e w' ⟨rfl, ⟨nd, rfl⟩⟩) | (go_at_call 45; (with_reducible refine (spec_between.calls 8240 a0 8254 false _ A34.out).mono ?_); rintro e w' ⟨rfl, ⟨nd, rfl⟩⟩) | (go_at_call 45; (with_reducible refine (spec_between.calls 8592 a0 11263 false _ A36.out).mono ?_); rintro e w' ⟨rfl, ⟨nd, rfl⟩⟩) | (go_at_call 45; (with_reducible refine (spec_between.calls 55296 a0 63743 true _ A38.out).mono ?_); rintro e w' ⟨rfl, ⟨nd, rfl⟩⟩))
                          go_ret
                          exact ⟨by first | rfl | (simp; done) | (simp [*]; done), by repeat (first | exact Drawn0.refl _ | apply Drawn0.step)⟩
                        · replace c39 := Bool.eq_false_iff.mpr c39
                          subst c39
                          have H1 : ((spec_between.f 65520 a0 65535).bind fun t509 => (if t509 = true then (some 0) else ((spec_between.f 127744 a0 128591).bind fun t510 => (if t510 = true then (some 0) else (some 3))))) = some r := by rw [if_neg (show ¬ (false = true) by decide)] at H; exact H
                          clear H
                          have H := H1
                          clear H1
                          replace H := Option.bind_eq_some_iff.mp H
                          obtain ⟨t509, A400, H⟩ := H
                          replace H : (if t509 = true then (some 0) else ((spec_between.f 127744 a0 128591).bind fun t510 => (if t510 = true then (some 0) else (some 3)))) = some r := H
                          have A40 := Aside0.mk A400
                          clear A400
                          by_cases c41 : t509 = true
                          · subst c41
                            have H1 : (some 0) = some r := by rw [if_pos rfl] at H; exact H
                            clear H
                            have H := H1
                            clear H1
                            obtain rfl := Option.some.inj H
                            go_wp2_with (first | ((with_reducible refine gate_callee (f := 29) rfl ?_); refine goesL_ (some 59) rfl rfl Tryd.func29 (by kernel_rfl) rfl #[.int .i64 a0] rfl (by (try simp only [List.map_toArray, List.map_cons, List.map_nil]); first | done | rfl | (simp only [List.length_drop, List.length_take]; rfl)) ?_; (with_reducible refine (spec_Blank.calls a0 false _ A28.out).mono ?_); rintro e w' ⟨rfl, ⟨nd, rfl⟩⟩; refine ⟨_, rfl, ?_⟩) | (go_at_call 28; (with_reducible refine (spec_LineEnd.calls a0 false _ A30.out).mono ?_); rintro e w' ⟨rfl, ⟨nd, rfl⟩⟩) | (go_at_call 45; (with_reducible refine (spec_between.calls 8208 a0 8231 false _ A32.out).mono ?_); rintro e w' ⟨rfl, ⟨nd, rfl⟩⟩) | (go_at_call 45; (with_reducible refine (spec_between.calls 8240 a0 8254 false _ A34.out).mono ?_); rintro e w' ⟨rfl, ⟨nd, rfl⟩⟩) | (go_at_call 45; (with_reducible refine (spec_between.calls 8592 a0 11263 false _ A36.out).mono ?_); rintro e w' ⟨rfl, ⟨nd, rfl⟩⟩) | (go_at_call 45; (with_reducible refine (spec_between.calls 55296 a0 63743 false _ A38.out).mono ?_); rintro e w' ⟨rfl, ⟨nd, rfl⟩⟩) | (go_at_call 45; (with_reducible refine (spec_between.calls 65520 a0 65535 true _ A40.out).mono ?_); rintro e w' ⟨rfl, ⟨nd, rfl⟩⟩))
                            go_ret
                            exact ⟨by first | rfl | (simp; done) | (simp [*]; done), by repeat (first | exact Drawn0.refl _ | apply Drawn0.step)⟩
                          · replace c41 := Bool.eq_false_iff.mpr c41
                            subst c41
                            have H1 : ((spec_between.f 127744 a0 128591).bind fun t510 => (if t510 = true then (some 0) else (some 3))) = some r := by rw [if_neg (show ¬ (false = true) by decide)] at H; exact H
                            clear H
                            have H := H1
                            clear H1
                            replace H := Option.bind_eq_some_iff.mp H
                            obtain ⟨t510, A420, H⟩ := H
                            replace H : (if t510 = true then (some 0) else (some 3)) = some r := H
                            have A42 := Aside0.mk A420
                            clear A420
                            by_cases c43 : t510 = true
                            · subst c43
                              have H1 : (some 0) = some r := by rw [if_pos rfl] at H; exact H
                              clear H
                              have H := H1
                              clear H1
                              obtain rfl := Option.some.inj H
                              go_wp2_with (first | ((with_reducible refine gate_callee (f := 29) rfl ?_); refine goesL_ (some 59) rfl rfl Tryd.func29 (by kernel_rfl) rfl #[.int .i64 a0] rfl (by (try simp only [List.map_toArray, List.map_cons, List.map_nil]); first | done | rfl | (simp only [List.length_drop, List.length_take]; rfl)) ?_; (with_reducible refine (spec_Blank.calls a0 false _ A28.out).mono ?_); rintro e w' ⟨rfl, ⟨nd, rfl⟩⟩; refine ⟨_, rfl, ?_⟩) | (go_at_call 28; (with_reducible refine (spec_LineEnd.calls a0 false _ A30.out).mono ?_); rintro e w' ⟨rfl, ⟨nd, rfl⟩⟩) | (go_at_call 45; (with_reducible refine (spec_between.calls 8208 a0 8231 false _ A32.out).mono ?_); rintro e w' ⟨rfl, ⟨nd, rfl⟩⟩) | (go_at_call 45; (with_reducible refine (spec_between.calls 8240 a0 8254 false _ A34.out).mono ?_); rintro e w' ⟨rfl, ⟨nd, rfl⟩⟩) | (go_at_call 45; (with_reducible refine (spec_between.calls 8592 a0 11263 false _ A36.out).mono ?_); rintro e w' ⟨rfl, ⟨nd, rfl⟩⟩) | (go_at_call 45; (with_reducible refine (spec_between.calls 55296 a0 63743 false _ A38.out).mono ?_); rintro e w' ⟨rfl, ⟨nd, rfl⟩⟩) | (go_at_call 45; (with_reducible refine (spec_between.calls 65520 a0 65535 false _ A40.out).mono ?_); rintro e w' ⟨rfl, ⟨nd, rfl⟩⟩) | (go_at_call 45; (with_reducible refine (spec_between.calls 127744 a0 128591 true _ A42.out).mono ?_); rintro e w' ⟨rfl, ⟨nd, rfl⟩⟩))
                              go_ret
                              exact ⟨by first | rfl | (simp; done) | (simp [*]; done), by repeat (first | exact Drawn0.refl _ | apply Drawn0.step)⟩
                            · replace c43 := Bool.eq_false_iff.mpr c43
                              subst c43
                              have H1 : (some 3) = some r := by rw [if_neg (show ¬ (false = true) by decide)] at H; exact H
                              clear H
                              have H := H1
                              clear H1
                              obtain rfl := Option.some.inj H
                              go_wp2_with (first | ((with_reducible refine gate_callee (f := 29) rfl ?_); refine goesL_ (some 59) rfl rfl Tryd.func29 (by kernel_rfl) rfl #[.int .i64 a0] rfl (by (try simp only [List.map_toArray, List.map_cons, List.map_nil]); first | done | rfl | (simp only [List.length_drop, List.length_take]; rfl)) ?_; (with_reducible refine (spec_Blank.calls a0 false _ A28.out).mono ?_); rintro e w' ⟨rfl, ⟨nd, rfl⟩⟩; refine ⟨_, rfl, ?_⟩) | (go_at_call 28; (with_reducible refine (spec_LineEnd.calls a0 false _ A30.out).mono ?_); rintro e w' ⟨rfl, ⟨nd, rfl⟩⟩) | (go_at_call 45; (with_reducible refine (spec_between.calls 8208 a0 8231 false _ A32.out).mono ?_); rintro e w' ⟨rfl, ⟨nd, rfl⟩⟩) | (go_at_call 45; (with_reducible refine (spec_between.calls 8240 a0 8254 false _ A34.out).mono ?_); rintro e w' ⟨rfl, ⟨nd, rfl⟩⟩) | (go_at_call 45; (with_reducible refine (spec_between.calls 8592 a0 11263 false _ A36.out).mono ?_); rintro e w' ⟨rfl, ⟨nd, rfl⟩⟩) | (go_at_call 45; (with_reducible refine (spec_between.calls 55296 a0 63743 false _ A38.out).mono ?_); rintro e w' ⟨rfl, ⟨nd, rfl⟩⟩) | (go_at_call 45; (with_reducible refine (spec_between.calls 65520 a0 65535 false _ A40.out).mono ?_); rintro e w' ⟨rfl, ⟨nd, rfl⟩⟩) | (go_at_call 45; (with_reducible refine (spec_between.calls 127744 a0 128591 false _ A42.out).mono ?_); rintro e w' ⟨rfl, ⟨nd, rfl⟩⟩))
                              go_ret
                              exact ⟨by first | rfl | (simp; done) | (simp [*]; done), by repeat (first | exact Drawn0.refl _ | apply Drawn0.step)⟩

/-! ### spec_InName: function 33 -/
def spec_InName.j0 : Nat → Int → Bool → Option (Int)
  | 0, _, _ => none
  | k + 1, x0, x3 => if x3 = true then (some 2) else ((spec_Digit.f x0).bind fun t513 => (if t513 = true then (some 1) else (if x0 < 170 then (some 0) else (if x0 < 706 then ((spec_latin.f k x0).bind fun t514 => (some t514)) else ((spec_wide.f k x0).bind fun t515 => (some t515))))))
def spec_InName.f (k : Nat) (a0 : Int) : Option (Int) := (spec_between.f 97 a0 122).bind fun t511 => (if t511 = true then (spec_InName.j0 k a0 true) else ((spec_between.f 65 a0 90).bind fun t512 => (if t512 = true then (spec_InName.j0 k a0 true) else (if a0 = 36 then (spec_InName.j0 k a0 true) else (spec_InName.j0 k a0 (a0 == 95))))))
theorem spec_InName.mono_l : ∀ k, (∀ y0 y1, LeO (spec_InName.j0 k y0 y1) (spec_InName.j0 (k + 1) y0 y1))
  | 0 => fun _ _ r h => by simp [spec_InName.j0] at h
  | k + 1 => by
    have ih0 := spec_InName.mono_l k
    · intro y0 y1
      unfold spec_InName.j0
      repeat' first
      | (with_reducible exact ih0 _ _)
      | (with_reducible exact spec_latin.mono _ _)
      | (with_reducible exact spec_wide.mono _ _)
      | (with_reducible exact LeO.refl _)
      | (with_reducible exact LeO.none _)
      | (with_reducible refine LeO.ite ?_ ?_)
      | (with_reducible refine LeO.bind ?_ (fun _ => ?_))
      | exact ih0 _ _
      | exact spec_latin.mono _ _
      | exact spec_wide.mono _ _
      | exact LeO.none _
      | refine LeO.ite ?_ ?_
      | refine LeO.bind ?_ (fun _ => ?_)
theorem spec_InName.mono : ∀ a0 k, LeO (spec_InName.f k a0) (spec_InName.f (k + 1) a0) := by
  intro a0 k
  have ih0 := spec_InName.mono_l k
  unfold spec_InName.f
  repeat' first
      | (with_reducible exact ih0 _ _)
      | (with_reducible exact spec_latin.mono _ _)
      | (with_reducible exact spec_wide.mono _ _)
      | (with_reducible exact LeO.refl _)
      | (with_reducible exact LeO.none _)
      | (with_reducible refine LeO.ite ?_ ?_)
      | (with_reducible refine LeO.bind ?_ (fun _ => ?_))
      | exact ih0 _ _
      | exact spec_latin.mono _ _
      | exact spec_wide.mono _ _
      | exact LeO.none _
      | refine LeO.ite ?_ ?_
      | refine LeO.bind ?_ (fun _ => ?_)
set_option maxHeartbeats 8000000 in
set_option maxRecDepth 100000 in
theorem spec_InName.calls (k : Nat) (a0 : Int) (r : Int) (w : World) (h : spec_InName.f k a0 = some r) :
    Calls Tryd.prog 33 #[.int .i64 a0] w fun e w' => e = .returned (.int .i64 r) ∧ Drawn0 w w' := by
  have H : ((spec_between.f 97 a0 122).bind fun t511 => (if t511 = true then (spec_InName.j0 k a0 true) else ((spec_between.f 65 a0 90).bind fun t512 => (if t512 = true then (spec_InName.j0 k a0 true) else (if a0 = 36 then (spec_InName.j0 k a0 true) else (spec_InName.j0 k a0 (a0 == 95))))))) = some r := h
  clear h
  have HC2 := Aside0.mk H
  clear H
  go_enter Tryd.func33, Tryd.ntmps33
  go_upto_region 1 with (fail)
  go_cut [3] (fun v3 wc => ∃ (kq : Nat) (x3_1 : Bool), v3 = .bool x3_1 ∧ Aside0 (spec_InName.j0 kq a0 x3_1 = some r) ∧ Aside0 (kq ≤ k) ∧ Drawn0 w wc)
  case first =>
    have H := HC2.out
    clear HC2
    replace H := Option.bind_eq_some_iff.mp H
    obtain ⟨t511, A30, H⟩ := H
    replace H : (if t511 = true then (spec_InName.j0 k a0 true) else ((spec_between.f 65 a0 90).bind fun t512 => (if t512 = true then (spec_InName.j0 k a0 true) else (if a0 = 36 then (spec_InName.j0 k a0 true) else (spec_InName.j0 k a0 (a0 == 95)))))) = some r := H
    have A3 := Aside0.mk A30
    clear A30
    by_cases c4 : t511 = true
    · subst c4
      have H1 : (spec_InName.j0 k a0 true) = some r := by rw [if_pos rfl] at H; exact H
      clear H
      have H := H1
      clear H1
      have H' := Aside0.mk H
      clear H
      go_wp2_with (first | ((with_reducible refine gate_callee (f := 45) rfl ?_); refine goesL_ (some 5) rfl rfl Tryd.func45 (by kernel_rfl) rfl #[.int .i64 97, .int .i64 a0, .int .i64 122] rfl (by (try simp only [List.map_toArray, List.map_cons, List.map_nil]); first | done | rfl | (simp only [List.length_drop, List.length_take]; rfl)) ?_; (with_reducible refine (spec_between.calls 97 a0 122 true _ A3.out).mono ?_); rintro e w' ⟨rfl, ⟨nd, rfl⟩⟩; refine ⟨_, rfl, ?_⟩))
      go_meet
      case rel => exact ⟨_, (true), (by first | rfl | (simp; done) | (simp [*]; done)), H', ⟨by first | omega | exact Nat.le_refl _⟩, by repeat (first | exact Drawn0.refl _ | apply Drawn0.step)⟩
    · replace c4 := Bool.eq_false_iff.mpr c4
      subst c4
      have H1 : ((spec_between.f 65 a0 90).bind fun t512 => (if t512 = true then (spec_InName.j0 k a0 true) else (if a0 = 36 then (spec_InName.j0 k a0 true) else (spec_InName.j0 k a0 (a0 == 95))))) = some r := by rw [if_neg (show ¬ (false = true) by decide)] at H; exact H
      clear H
      have H := H1
      clear H1
      replace H := Option.bind_eq_some_iff.mp H
      obtain ⟨t512, A50, H⟩ := H
      replace H : (if t512 = true then (spec_InName.j0 k a0 true) else (if a0 = 36 then (spec_InName.j0 k a0 true) else (spec_InName.j0 k a0 (a0 == 95)))) = some r := H
      have A5 := Aside0.mk A50
      clear A50
      by_cases c6 : t512 = true
      · subst c6
        have H1 : (spec_InName.j0 k a0 true) = some r := by rw [if_pos rfl] at H; exact H
        clear H
        have H := H1
        clear H1
        have H' := Aside0.mk H
        clear H
        go_wp2_with (first | ((with_reducible refine gate_callee (f := 45) rfl ?_); refine goesL_ (some 5) rfl rfl Tryd.func45 (by kernel_rfl) rfl #[.int .i64 97, .int .i64 a0, .int .i64 122] rfl (by (try simp only [List.map_toArray, List.map_cons, List.map_nil]); first | done | rfl | (simp only [List.length_drop, List.length_take]; rfl)) ?_; (with_reducible refine (spec_between.calls 97 a0 122 false _ A3.out).mono ?_); rintro e w' ⟨rfl, ⟨nd, rfl⟩⟩; refine ⟨_, rfl, ?_⟩) | (go_at_call 45; (with_reducible refine (spec_between.calls 65 a0 90 true _ A5.out).mono ?_); rintro e w' ⟨rfl, ⟨nd, rfl⟩⟩))
        go_meet
        case rel => exact ⟨_, (true), (by first | rfl | (simp; done) | (simp [*]; done)), H', ⟨by first | omega | exact Nat.le_refl _⟩, by repeat (first | exact Drawn0.refl _ | apply Drawn0.step)⟩
      · replace c6 := Bool.eq_false_iff.mpr c6
        subst c6
        have H1 : (if a0 = 36 then (spec_InName.j0 k a0 true) else (spec_InName.j0 k a0 (a0 == 95))) = some r := by rw [if_neg (show ¬ (false = true) by decide)] at H; exact H
        clear H
        have H := H1
        clear H1
        by_cases c7 : a0 = 36
        · rw [if_pos c7] at H
          have c7b0 : (a0 == 36) = true := beq_iff_eq.mpr c7
          have c7b1 : (a0 != 36) = false := bne_eq_false_iff_eq.mpr c7
          clear c7
          (first | rw [c7b0] | (simp only [i64_w, i32_w]; rw [c7b0]) | skip)
          have H' := Aside0.mk H
          clear H
          go_wp2_with (first | ((with_reducible refine gate_callee (f := 45) rfl ?_); refine goesL_ (some 5) rfl rfl Tryd.func45 (by kernel_rfl) rfl #[.int .i64 97, .int .i64 a0, .int .i64 122] rfl (by (try simp only [List.map_toArray, List.map_cons, List.map_nil]); first | done | rfl | (simp only [List.length_drop, List.length_take]; rfl)) ?_; (with_reducible refine (spec_between.calls 97 a0 122 false _ A3.out).mono ?_); rintro e w' ⟨rfl, ⟨nd, rfl⟩⟩; refine ⟨_, rfl, ?_⟩) | (go_at_call 45; (with_reducible refine (spec_between.calls 65 a0 90 false _ A5.out).mono ?_); rintro e w' ⟨rfl, ⟨nd, rfl⟩⟩))
          go_meet
          case rel => exact ⟨_, (true), (by first | rfl | (simp; done) | (simp [*]; done)), H', ⟨by first | omega | exact Nat.le_refl _⟩, by repeat (first | exact Drawn0.refl _ | apply Drawn0.step)⟩
        · rw [if_neg c7] at H
          have c7b0 : (a0 == 36) = false := beq_eq_false_iff_ne.mpr c7
          have c7b1 : (a0 != 36) = true := bne_iff_ne.mpr c7
          (first | rw [c7b0] | (simp only [i64_w, i32_w]; rw [c7b0]) | skip)
          have H' := Aside0.mk H
          clear H
          go_wp2_with (first | ((with_reducible refine gate_callee (f := 45) rfl ?_); refine goesL_ (some 5) rfl rfl Tryd.func45 (by kernel_rfl) rfl #[.int .i64 97, .int .i64 a0, .int .i64 122] rfl (by (try simp only [List.map_toArray, List.map_cons, List.map_nil]); first | done | rfl | (simp only [List.length_drop, List.length_take]; rfl)) ?_; (with_reducible refine (spec_between.calls 97 a0 122 false _ A3.out).mono ?_); rintro e w' ⟨rfl, ⟨nd, rfl⟩⟩; refine ⟨_, rfl, ?_⟩) | (go_at_call 45; (with_reducible refine (spec_between.calls 65 a0 90 false _ A5.out).mono ?_); rintro e w' ⟨rfl, ⟨nd, rfl⟩⟩))
          go_meet
          case rel => exact ⟨_, ((a0 == 95)), (by first | rfl | (simp; done) | (simp [*]; done)), H', ⟨by first | omega | exact Nat.le_refl _⟩, by repeat (first | exact Drawn0.refl _ | apply Drawn0.step)⟩
  case rest =>
    clear HC2
    try clear p2
    try clear c3
    try clear c4
    try clear c6
    try clear c7
    try clear c7b0
    try clear c7b1
    obtain ⟨kq, x3_1, rfl, HA, HJ1, ⟨mc1, rfl⟩⟩ := hcut
    cases kq with
    | zero => exact absurd HA.out (by simp [spec_InName.j0])
    | succ kj1 =>
      have H := HA.out
      clear HA
      simp only [spec_InName.j0] at H
      by_cases c8 : x3_1 = true
      · subst c8
        have H1 : (some 2) = some r := by rw [if_pos rfl] at H; exact H
        clear H
        have H := H1
        clear H1
        obtain rfl := Option.some.inj H
        go_wp2
        go_ret
        exact ⟨by first | rfl | (simp; done) | (simp [*]; done), by repeat (first | exact Drawn0.refl _ | apply Drawn0.step)⟩
      · replace c8 := Bool.eq_false_iff.mpr c8
        subst c8
        have H1 : ((spec_Digit.f a0).bind fun t513 => (if t513 = true then (some 1) else (if a0 < 170 then (some 0) else (if a0 < 706 then ((spec_latin.f kj1 a0).bind fun t514 => (some t514)) else ((spec_wide.f kj1 a0).bind fun t515 => (some t515)))))) = some r := by rw [if_neg (show ¬ (false = true) by decide)] at H; exact H
        clear H
        have H := H1
        clear H1
        replace H := Option.bind_eq_some_iff.mp H
        obtain ⟨t513, A90, H⟩ := H
        replace H : (if t513 = true then (some 1) else (if a0 < 170 then (some 0) else (if a0 < 706 then ((spec_latin.f kj1 a0).bind fun t514 => (some t514)) else ((spec_wide.f kj1 a0).bind fun t515 => (some t515))))) = some r := H
        have A9 := Aside0.mk A90
        clear A90
        by_cases c10 : t513 = true
        · subst c10
          have H1 : (some 1) = some r := by rw [if_pos rfl] at H; exact H
          clear H
          have H := H1
          clear H1
          obtain rfl := Option.some.inj H
          go_wp2_with (first | ((with_reducible refine gate_callee (f := 31) rfl ?_); refine goesL_ (some 20) rfl rfl Tryd.func31 (by kernel_rfl) rfl #[.int .i64 a0] rfl (by (try simp only [List.map_toArray, List.map_cons, List.map_nil]); first | done | rfl | (simp only [List.length_drop, List.length_take]; rfl)) ?_; (with_reducible refine (spec_Digit.calls a0 true _ A9.out).mono ?_); rintro e w' ⟨rfl, ⟨nd, rfl⟩⟩; refine ⟨_, rfl, ?_⟩))
          go_ret
          exact ⟨by first | rfl | (simp; done) | (simp [*]; done), by repeat (first | exact Drawn0.refl _ | apply Drawn0.step)⟩
        · replace c10 := Bool.eq_false_iff.mpr c10
          subst c10
          have H1 : (if a0 < 170 then (some 0) else (if a0 < 706 then ((spec_latin.f kj1 a0).bind fun t514 => (some t514)) else ((spec_wide.f kj1 a0).bind fun t515 => (some t515)))) = some r := by rw [if_neg (show ¬ (false = true) by decide)] at H; exact H
          clear H
          have H := H1
          clear H1
          by_cases c11 : a0 < 170
          · rw [if_pos c11] at H
            have c11b0 : decide (a0 < 170) = true := decide_eq_true c11
            clear c11
            obtain rfl := Option.some.inj H
            go_wp2_with (first | ((with_reducible refine gate_callee (f := 31) rfl ?_); refine goesL_ (some 20) rfl rfl Tryd.func31 (by kernel_rfl) rfl #[.int .i64 a0] rfl (by (try simp only [List.map_toArray, List.map_cons, List.map_nil]); first | done | rfl | (simp only [List.length_drop, List.length_take]; rfl)) ?_; (with_reducible refine (spec_Digit.calls a0 false _ A9.out).mono ?_); rintro e w' ⟨rfl, ⟨nd, rfl⟩⟩; refine ⟨_, rfl, ?_⟩))
            go_ret
            exact ⟨by first | rfl | (simp; done) | (simp [*]; done), by repeat (first | exact Drawn0.refl _ | apply Drawn0.step)⟩
          · rw [if_neg c11] at H
            have c11b0 : decide (a0 < 170) = false := decide_eq_false c11
            clear c11
            by_cases c12 : a0 < 706
            · rw [if_pos c12] at H
              have c12b0 : decide (a0 < 706) = true := decide_eq_true c12
              clear c12
              replace H := Option.bind_eq_some_iff.mp H
              obtain ⟨t514, A130, H⟩ := H
              replace H : (some t514) = some r := H
              have A13 := Aside0.mk A130
              clear A130
              obtain rfl := Option.some.inj H
              go_wp2_with (first | ((with_reducible refine gate_callee (f := 31) rfl ?_); refine goesL_ (some 20) rfl rfl Tryd.func31 (by kernel_rfl) rfl #[.int .i64 a0] rfl (by (try simp only [List.map_toArray, List.map_cons, List.map_nil]); first | done | rfl | (simp only [List.length_drop, List.length_take]; rfl)) ?_; (with_reducible refine (spec_Digit.calls a0 false _ A9.out).mono ?_); rintro e w' ⟨rfl, ⟨nd, rfl⟩⟩; refine ⟨_, rfl, ?_⟩) | ((with_reducible refine gate_callee (f := 53) rfl ?_); refine goesL_ (some 28) rfl rfl Tryd.func53 (by kernel_rfl) rfl #[.int .i64 a0] rfl (by (try simp only [List.map_toArray, List.map_cons, List.map_nil]); first | done | rfl | (simp only [List.length_drop, List.length_take]; rfl)) ?_; (with_reducible refine (spec_latin.calls kj1 a0 t514 _ A13.out).mono ?_); rintro e w' ⟨rfl, ⟨nd, rfl⟩⟩; refine ⟨_, rfl, ?_⟩))
              go_ret
              exact ⟨by first | rfl | (simp; done) | (simp [*]; done), by repeat (first | exact Drawn0.refl _ | apply Drawn0.step)⟩
            · rw [if_neg c12] at H
              have c12b0 : decide (a0 < 706) = false := decide_eq_false c12
              clear c12
              replace H := Option.bind_eq_some_iff.mp H
              obtain ⟨t515, A140, H⟩ := H
              replace H : (some t515) = some r := H
              have A14 := Aside0.mk A140
              clear A140
              obtain rfl := Option.some.inj H
              go_wp2_with (first | ((with_reducible refine gate_callee (f := 31) rfl ?_); refine goesL_ (some 20) rfl rfl Tryd.func31 (by kernel_rfl) rfl #[.int .i64 a0] rfl (by (try simp only [List.map_toArray, List.map_cons, List.map_nil]); first | done | rfl | (simp only [List.length_drop, List.length_take]; rfl)) ?_; (with_reducible refine (spec_Digit.calls a0 false _ A9.out).mono ?_); rintro e w' ⟨rfl, ⟨nd, rfl⟩⟩; refine ⟨_, rfl, ?_⟩) | ((with_reducible refine gate_callee (f := 54) rfl ?_); refine goesL_ (some 30) rfl rfl Tryd.func54 (by kernel_rfl) rfl #[.int .i64 a0] rfl (by (try simp only [List.map_toArray, List.map_cons, List.map_nil]); first | done | rfl | (simp only [List.length_drop, List.length_take]; rfl)) ?_; (with_reducible refine (spec_wide.calls kj1 a0 t515 _ A14.out).mono ?_); rintro e w' ⟨rfl, ⟨nd, rfl⟩⟩; refine ⟨_, rfl, ?_⟩))
              go_ret
              exact ⟨by first | rfl | (simp; done) | (simp [*]; done), by repeat (first | exact Drawn0.refl _ | apply Drawn0.step)⟩

/-! ### spec_UTF8: function 60 -/
def spec_UTF8.f (k : Nat) (a0 : Int) : Option (ByteArray) := if a0 < 128 then ((spec_bytesOf.f k (([a0] : List Int))).bind fun t761 => (some t761)) else (if a0 < 2048 then ((spec_bytesOf.f k (([Go.bits .or .i64 192 (a0 / 64), Go.bits .or .i64 128 (Go.bits .and .i64 a0 63)] : List Int))).bind fun t765 => (some t765)) else (if a0 < 65536 then ((spec_bytesOf.f k (([Go.bits .or .i64 224 (a0 / 4096), Go.bits .or .i64 128 (Go.bits .and .i64 (a0 / 64) 63), Go.bits .or .i64 128 (Go.bits .and .i64 a0 63)] : List Int))).bind fun t769 => (some t769)) else ((spec_bytesOf.f k (([Go.bits .or .i64 240 (a0 / 262144), Go.bits .or .i64 128 (Go.bits .and .i64 (a0 / 4096) 63), Go.bits .or .i64 128 (Go.bits .and .i64 (a0 / 64) 63), Go.bits .or .i64 128 (Go.bits .and .i64 a0 63)] : List Int))).bind fun t773 => (some t773))))
theorem spec_UTF8.mono : ∀ a0 k, LeO (spec_UTF8.f k a0) (spec_UTF8.f (k + 1) a0) := by
  intro a0 k
  unfold spec_UTF8.f
  repeat' first
      | (with_reducible exact spec_bytesOf.mono _ _)
      | (with_reducible exact LeO.refl _)
      | (with_reducible exact LeO.none _)
      | (with_reducible refine LeO.ite ?_ ?_)
      | (with_reducible refine LeO.bind ?_ (fun _ => ?_))
      | exact spec_bytesOf.mono _ _
      | exact LeO.none _
      | refine LeO.ite ?_ ?_
      | refine LeO.bind ?_ (fun _ => ?_)
set_option maxHeartbeats 8000000 in
set_option maxRecDepth 100000 in
theorem spec_UTF8.calls (k : Nat) (a0 : Int) (r : ByteArray) (w : World) (h : spec_UTF8.f k a0 = some r) :
    Calls Tryd.prog 60 #[.int .i64 a0] w fun e w' => e = .returned (.string r) ∧ Below w.heap.size w w' := by
  have HB := Aside0.mk (Below.refl w.heap.size w)
  have H : (if a0 < 128 then ((spec_bytesOf.f k (([a0] : List Int))).bind fun t761 => (some t761)) else (if a0 < 2048 then ((spec_bytesOf.f k (([Go.bits .or .i64 192 (a0 / 64), Go.bits .or .i64 128 (Go.bits .and .i64 a0 63)] : List Int))).bind fun t765 => (some t765)) else (if a0 < 65536 then ((spec_bytesOf.f k (([Go.bits .or .i64 224 (a0 / 4096), Go.bits .or .i64 128 (Go.bits .and .i64 (a0 / 64) 63), Go.bits .or .i64 128 (Go.bits .and .i64 a0 63)] : List Int))).bind fun t769 => (some t769)) else ((spec_bytesOf.f k (([Go.bits .or .i64 240 (a0 / 262144), Go.bits .or .i64 128 (Go.bits .and .i64 (a0 / 4096) 63), Go.bits .or .i64 128 (Go.bits .and .i64 (a0 / 64) 63), Go.bits .or .i64 128 (Go.bits .and .i64 a0 63)] : List Int))).bind fun t773 => (some t773))))) = some r := h
  clear h
  by_cases c2 : a0 < 128
  · rw [if_pos c2] at H
    have c2b0 : decide (a0 < 128) = true := decide_eq_true c2
    clear c2
    obtain ⟨y758, hy758⟩ : ∃ y_ : List Int, y_ = (([a0] : List Int)) := ⟨_, rfl⟩
    replace H : ((spec_bytesOf.f k y758).bind fun t761 => (some t761)) = some r := by first | (rw [hy758]; with_reducible exact H) | (have H2_ := (Option.bind_some _ _).symm.trans H; rw [hy758]; with_reducible exact H2_) | (have H2_ := (Option.bind_some _ _).symm.trans H; with_reducible exact H2_) | with_reducible exact H | (rw [hy758]; exact H) | exact H
    have Ny758 := Aside0.mk hy758
    clear hy758
    replace H := Option.bind_eq_some_iff.mp H
    obtain ⟨t761, A30, H⟩ := H
    replace H : (some t761) = some r := H
    have A3 := Aside0.mk A30
    clear A30
    obtain rfl := Option.some.inj H
    go_enter Tryd.func60, Tryd.ntmps60
    go_wp2_with (first | ((with_reducible refine gate_dst (N := 7) rfl ?_); refine Kd.R_lit (Kd.int .i64) _ 3 ?hg (N := 7) ?hd (xs := ([a0] : List Int)) (inner := [.int .i64 a0]) (ok := fun _ => True) (okp := fun _ => True) ?hr ?hp (fun _ hk => hk) trivial (Below.refl _ _) (Nat.le_refl _) (by simp) ?_; (case hd => rfl); (case hg => rfl); (case hr => first | (go_simp; done) | (go_simp; rfl)); (case hp => exact (Reps.one (show Kd.M (Kd.int .i64) _ _ _ a0 [.int .i64 a0] from rfl) (Reps.none _ _))); intro v759 w4 ho5 hb hg_ hnew_; clear hg_ hnew_; (first | rw [← Ny758.out] at ho5 | (simp only [Int.reduceToNat] at ho5; rw [← Ny758.out] at ho5)); have n0_ := Aside0.mk (Kd.R_lower ho5 (below_size (by repeat (first | (with_reducible first | exact HB.out | apply below_alloc | apply pw_below_drewN | apply below_drew1) | exact HB.out)))); have n1_ := Aside0.mk (below_step (by repeat (first | (with_reducible first | exact HB.out | apply below_alloc | apply pw_below_drewN | apply below_drew1) | exact HB.out)) hb); clear HB; have HO760 := n0_; have HB := n1_; clear n0_ n1_; clear hb ho5; obtain ⟨Ao6, co6, eo6⟩ := Kd.R_slice HO760.out; subst eo6) | ((with_reducible refine gate_callee (f := 69) rfl ?_); refine goesL_ (some 8) rfl rfl Tryd.func69 (by kernel_rfl) rfl #[.slice Ao6 y758.length co6] rfl (by (try simp only [List.map_toArray, List.map_cons, List.map_nil]); first | done | rfl | (simp only [List.length_drop, List.length_take]; rfl)) ?_; (with_reducible refine (spec_bytesOf.calls k _ _ y758 t761 _ ?side1 ?side2 A3.out).mono ?_); (case side1 => repeat (first | exact (Kd.R_reads' HO760.out).2.2 | (with_reducible refine Kd.C_alloc ?_ _) | (with_reducible refine Kd.C_drewN ?_ _) | (with_reducible refine Kd.C_drew ?_))); (case side2 => exact (Kd.R_reads' HO760.out).2.1); rintro e w7 ⟨rfl, hb⟩; refine ⟨_, rfl, ?_⟩; have n0_ := Aside0.mk (Kd.R_below (by (with_reducible repeat (first | apply Kd.R_alloc | apply Kd.R_drewN | apply Kd.R_drew)); exact HO760.out) hb); have n1_ := Aside0.mk (below_step (by repeat (first | (with_reducible first | exact HB.out | apply below_alloc | apply pw_below_drewN | apply below_drew1) | exact HB.out)) hb); clear HO760; clear HB; have HO760 := n0_; have HB := n1_; clear n0_ n1_; (try clear hb); (try clear hb2); (try clear hk); (try clear hi)))
    go_ret
    exact ⟨by first | rfl | (simp [errW_none, errW_some] <;> rfl) | (simp [*, errW_none, errW_some] <;> rfl), by repeat (first | (with_reducible first | exact HB.out | apply below_alloc | apply pw_below_drewN | apply below_drew1) | exact HB.out)⟩
  · rw [if_neg c2] at H
    have c2b0 : decide (a0 < 128) = false := decide_eq_false c2
    clear c2
    by_cases c8 : a0 < 2048
    · rw [if_pos c8] at H
      have c8b0 : decide (a0 < 2048) = true := decide_eq_true c8
      clear c8
      obtain ⟨y762, hy762⟩ : ∃ y_ : List Int, y_ = (([Go.bits .or .i64 192 (a0 / 64), Go.bits .or .i64 128 (Go.bits .and .i64 a0 63)] : List Int)) := ⟨_, rfl⟩
      replace H : ((spec_bytesOf.f k y762).bind fun t765 => (some t765)) = some r := by first | (rw [hy762]; with_reducible exact H) | (have H2_ := (Option.bind_some _ _).symm.trans H; rw [hy762]; with_reducible exact H2_) | (have H2_ := (Option.bind_some _ _).symm.trans H; with_reducible exact H2_) | with_reducible exact H | (rw [hy762]; exact H) | exact H
      have Ny762 := Aside0.mk hy762
      clear hy762
      replace H := Option.bind_eq_some_iff.mp H
      obtain ⟨t765, A90, H⟩ := H
      replace H : (some t765) = some r := H
      have A9 := Aside0.mk A90
      clear A90
      obtain rfl := Option.some.inj H
      go_enter Tryd.func60, Tryd.ntmps60
      go_wp2_with (first | ((with_reducible refine gate_dst (N := 18) rfl ?_); refine Kd.R_lit (Kd.int .i64) _ 3 ?hg (N := 18) ?hd (xs := ([Go.bits .or .i64 192 (a0 / 64), Go.bits .or .i64 128 (Go.bits .and .i64 a0 63)] : List Int)) (inner := [.int .i64 (Go.bits .or .i64 192 (a0 / 64)), .int .i64 (Go.bits .or .i64 128 (Go.bits .and .i64 a0 63))]) (ok := fun _ => True) (okp := fun _ => True) ?hr ?hp (fun _ hk => hk) trivial (Below.refl _ _) (Nat.le_refl _) (by simp) ?_; (case hd => rfl); (case hg => rfl); (case hr => first | (go_simp; done) | (go_simp; rfl)); (case hp => exact (Reps.one (show Kd.M (Kd.int .i64) _ _ _ (Go.bits .or .i64 192 (a0 / 64)) [.int .i64 (Go.bits .or .i64 192 (a0 / 64))] from rfl) (Reps.one (show Kd.M (Kd.int .i64) _ _ _ (Go.bits .or .i64 128 (Go.bits .and .i64 a0 63)) [.int .i64 (Go.bits .or .i64 128 (Go.bits .and .i64 a0 63))] from rfl) (Reps.none _ _)))); intro v763 w10 ho11 hb hg_ hnew_; clear hg_ hnew_; (first | rw [← Ny762.out] at ho11 | (simp only [Int.reduceToNat] at ho11; rw [← Ny762.out] at ho11)); have n0_ := Aside0.mk (Kd.R_lower ho11 (below_size (by repeat (first | (with_reducible first | exact HB.out | apply below_alloc | apply pw_below_drewN | apply below_drew1) | exact HB.out)))); have n1_ := Aside0.mk (below_step (by repeat (first | (with_reducible first | exact HB.out | apply below_alloc | apply pw_below_drewN | apply below_drew1) | exact HB.out)) hb); clear HB; have HO764 := n0_; have HB := n1_; clear n0_ n1_; clear hb ho11; obtain ⟨Ao12, co12, eo12⟩ := Kd.R_slice HO764.out; subst eo12) | ((with_reducible refine gate_callee (f := 69) rfl ?_); refine goesL_ (some 19) rfl rfl Tryd.func69 (by kernel_rfl) rfl #[.slice Ao12 y762.length co12] rfl (by (try simp only [List.map_toArray, List.map_cons, List.map_nil]); first | done | rfl | (simp only [List.length_drop, List.length_take]; rfl)) ?_; (with_reducible refine (spec_bytesOf.calls k _ _ y762 t765 _ ?side1 ?side2 A9.out).mono ?_); (case side1 => repeat (first | exact (Kd.R_reads' HO764.out).2.2 | (with_reducible refine Kd.C_alloc ?_ _) | (with_reducible refine Kd.C_drewN ?_ _) | (with_reducible refine Kd.C_drew ?_))); (case side2 => exact (Kd.R_reads' HO764.out).2.1); rintro e w13 ⟨rfl, hb⟩; refine ⟨_, rfl, ?_⟩; have n0_ := Aside0.mk (Kd.R_below (by (with_reducible repeat (first | apply Kd.R_alloc | apply Kd.R_drewN | apply Kd.R_drew)); exact HO764.out) hb); have n1_ := Aside0.mk (below_step (by repeat (first | (with_reducible first | exact HB.out | apply below_alloc | apply pw_below_drewN | apply below_drew1) | exact HB.out)) hb); clear HO764; clear HB; have HO764 := n0_; have HB := n1_; clear n0_ n1_; (try clear hb); (try clear hb2); (try clear hk); (try clear hi)))
      go_ret
      exact ⟨by first | rfl | (simp [errW_none, errW_some] <;> rfl) | (simp [*, errW_none, errW_some] <;> rfl), by repeat (first | (with_reducible first | exact HB.out | apply below_alloc | apply pw_below_drewN | apply below_drew1) | exact HB.out)⟩
    · rw [if_neg c8] at H
      have c8b0 : decide (a0 < 2048) = false := decide_eq_false c8
      clear c8
      by_cases c14 : a0 < 65536
      · rw [if_pos c14] at H
        have c14b0 : decide (a0 < 65536) = true := decide_eq_true c14
        clear c14
        obtain ⟨y766, hy766⟩ : ∃ y_ : List Int, y_ = (([Go.bits .or .i64 224 (a0 / 4096), Go.bits .or .i64 128 (Go.bits .and .i64 (a0 / 64) 63), Go.bits .or .i64 128 (Go.bits .and .i64 a0 63)] : List Int)) := ⟨_, rfl⟩
        replace H : ((spec_bytesOf.f k y766).bind fun t769 => (some t769)) = some r := by first | (rw [hy766]; with_reducible exact H) | (have H2_ := (Option.bind_some _ _).symm.trans H; rw [hy766]; with_reducible exact H2_) | (have H2_ := (Option.bind_some _ _).symm.trans H; with_reducible exact H2_) | with_reducible exact H | (rw [hy766]; exact H) | exact H
        have Ny766 := Aside0.mk hy766
        clear hy766
        replace H := Option.bind_eq_some_iff.mp H
        obtain ⟨t769, A150, H⟩ := H
        replace H : (some t769) = some r := H
        have A15 := Aside0.mk A150
        clear A150
        obtain rfl := Option.some.inj H
        go_enter Tryd.func60, Tryd.ntmps60
        go_wp2_with (first | ((with_reducible refine gate_dst (N := 33) rfl ?_); refine Kd.R_lit (Kd.int .i64) _ 3 ?hg (N := 33) ?hd (xs := ([Go.bits .or .i64 224 (a0 / 4096), Go.bits .or .i64 128 (Go.bits .and .i64 (a0 / 64) 63), Go.bits .or .i64 128 (Go.bits .and .i64 a0 63)] : List Int)) (inner := [.int .i64 (Go.bits .or .i64 224 (a0 / 4096)), .int .i64 (Go.bits .or .i64 128 (Go.bits .and .i64 (a0 / 64) 63)), .int .i64 (Go.bits .or .i64 128 (Go.bits .and .i64 a0 63))]) (ok := fun _ => True) (okp := fun _ => True) ?hr ?hp (fun _ hk => hk) trivial (Below.refl _ _) (Nat.le_refl _) (by simp) ?_; (case hd => rfl); (case hg => rfl); (case hr => first | (go_simp; done) | (go_simp; rfl)); (case hp => exact (Reps.one (show Kd.M (Kd.int .i64) _ _ _ (Go.bits .or .i64 224 (a0 / 4096)) [.int .i64 (Go.bits .or .i64 224 (a0 / 4096))] from rfl) (Reps.one (show Kd.M (Kd.int .i64) _ _ _ (Go.bits .or .i64 128 (Go.bits .and .i64 (a0 / 64) 63)) [.int .i64 (Go.bits .or .i64 128 (Go.bits .and .i64 (a0 / 64) 63))] from rfl) (Reps.one (show Kd.M (Kd.int .i64) _ _ _ (Go.bits .or .i64 128 (Go.bits .and .i64 a0 63)) [.int .i64 (Go.bits .or .i64 128 (Go.bits .and .i64 a0 63))] from rfl) (Reps.none _ _))))); intro v767 w16 ho17 hb hg_ hnew_; clear hg_ hnew_; (first | rw [← Ny766.out] at ho17 | (simp only [Int.reduceToNat] at ho17; rw [← Ny766.out] at ho17)); have n0_ := Aside0.mk (Kd.R_lower ho17 (below_size (by repeat (first | (with_reducible first | exact HB.out | apply below_alloc | apply pw_below_drewN | apply below_drew1) | exact HB.out)))); have n1_ := Aside0.mk (below_step (by repeat (first | (with_reducible first | exact HB.out | apply below_alloc | apply pw_below_drewN | apply below_drew1) | exact HB.out)) hb); clear HB; have HO768 := n0_; have HB := n1_; clear n0_ n1_; clear hb ho17; obtain ⟨Ao18, co18, eo18⟩ := Kd.R_slice HO768.out; subst eo18) | ((with_reducible refine gate_callee (f := 69) rfl ?_); refine goesL_ (some 34) rfl rfl Tryd.func69 (by kernel_rfl) rfl #[.slice Ao18 y766.length co18] rfl (by (try simp only [List.map_toArray, List.map_cons, List.map_nil]); first | done | rfl | (simp only [List.length_drop, List.length_take]; rfl)) ?_; (with_reducible refine (spec_bytesOf.calls k _ _ y766 t769 _ ?side1 ?side2 A15.out).mono ?_); (case side1 => repeat (first | exact (Kd.R_reads' HO768.out).2.2 | (with_reducible refine Kd.C_alloc ?_ _) | (with_reducible refine Kd.C_drewN ?_ _) | (with_reducible refine Kd.C_drew ?_))); (case side2 => exact (Kd.R_reads' HO768.out).2.1); rintro e w19 ⟨rfl, hb⟩; refine ⟨_, rfl, ?_⟩; have n0_ := Aside0.mk (Kd.R_below (by (with_reducible repeat (first | apply Kd.R_alloc | apply Kd.R_drewN | apply Kd.R_drew)); exact HO768.out) hb); have n1_ := Aside0.mk (below_step (by repeat (first | (with_reducible first | exact HB.out | apply below_alloc | apply pw_below_drewN | apply below_drew1) | exact HB.out)) hb); clear HO768; clear HB; have HO768 := n0_; have HB := n1_; clear n0_ n1_; (try clear hb); (try clear hb2); (try clear hk); (try clear hi)))
        go_ret
        exact ⟨by first | rfl | (simp [errW_none, errW_some] <;> rfl) | (simp [*, errW_none, errW_some] <;> rfl), by repeat (first | (with_reducible first | exact HB.out | apply below_alloc | apply pw_below_drewN | apply below_drew1) | exact HB.out)⟩
      · rw [if_neg c14] at H
        have c14b0 : decide (a0 < 65536) = false := decide_eq_false c14
        clear c14
        obtain ⟨y770, hy770⟩ : ∃ y_ : List Int, y_ = (([Go.bits .or .i64 240 (a0 / 262144), Go.bits .or .i64 128 (Go.bits .and .i64 (a0 / 4096) 63), Go.bits .or .i64 128 (Go.bits .and .i64 (a0 / 64) 63), Go.bits .or .i64 128 (Go.bits .and .i64 a0 63)] : List Int)) := ⟨_, rfl⟩
        replace H : ((spec_bytesOf.f k y770).bind fun t773 => (some t773)) = some r := by first | (rw [hy770]; with_reducible exact H) | (have H2_ := (Option.bind_some _ _).symm.trans H; rw [hy770]; with_reducible exact H2_) | (have H2_ := (Option.bind_some _ _).symm.trans H; with_reducible exact H2_) | with_reducible exact H | (rw [hy770]; exact H) | exact H
        have Ny770 := Aside0.mk hy770
        clear hy770
        replace H := Option.bind_eq_some_iff.mp H
        obtain ⟨t773, A200, H⟩ := H
        replace H : (some t773) = some r := H
        have A20 := Aside0.mk A200
        clear A200
        obtain rfl := Option.some.inj H
        go_enter Tryd.func60, Tryd.ntmps60
        go_wp2_with (first | ((with_reducible refine gate_dst (N := 49) rfl ?_); refine Kd.R_lit (Kd.int .i64) _ 3 ?hg (N := 49) ?hd (xs := ([Go.bits .or .i64 240 (a0 / 262144), Go.bits .or .i64 128 (Go.bits .and .i64 (a0 / 4096) 63), Go.bits .or .i64 128 (Go.bits .and .i64 (a0 / 64) 63), Go.bits .or .i64 128 (Go.bits .and .i64 a0 63)] : List Int)) (inner := [.int .i64 (Go.bits .or .i64 240 (a0 / 262144)), .int .i64 (Go.bits .or .i64 128 (Go.bits .and .i64 (a0 / 4096) 63)), .int .i64 (Go.bits .or .i64 128 (Go.bits .and .i64 (a0 / 64) 63)), .int .i64 (Go.bits .or .i64 128 (Go.bits .and .i64 a0 63))]) (ok := fun _ => True) (okp := fun _ => True) ?hr ?hp (fun _ hk => hk) trivial (Below.refl _ _) (Nat.le_refl _) (by simp) ?_; (case hd => rfl); (case hg => rfl); (case hr => first | (go_simp; done) | (go_simp; rfl)); (case hp => exact (Reps.one (show Kd.M (Kd.int .i64) _ _ _ (Go.bits .or .i64 240 (a0 / 262144)) [.int .i64 (Go.bits .or .i64 240 (a0 / 262144))] from rfl) (Reps.one (show Kd.M (Kd.int .i64) _ _ _ (Go.bits .or .i64 128 (Go.bits .and .i64 (a0 / 4096) 63)) [.int .i64 (Go.bits .or .i64 128 (Go.bits .and .i64 (a0 / 4096) 63))] from rfl) (Reps.one (show Kd.M (Kd.int .i64) _ _ _ (Go.bits .or .i64 128 (Go.bits .and .i64 (a0 / 64) 63)) [.int .i64 (Go.bits .or .i64 128 (Go.bits .and .i64 (a0 / 64) 63))] from rfl) (Reps.one (show Kd.M (Kd.int .i64) _ _ _ (Go.bits .or .i64 128 (Go.bits .and .i64 a0 63)) [.int .i64 (Go.bits .or .i64 128 (Go.bits .and .i64 a0 63))] from rfl) (Reps.none _ _)))))); intro v771 w21 ho22 hb hg_ hnew_; clear hg_ hnew_; (first | rw [← Ny770.out] at ho22 | (simp only [Int.reduceToNat] at ho22; rw [← Ny770.out] at ho22)); have n0_ := Aside0.mk (Kd.R_lower ho22 (below_size (by repeat (first | (with_reducible first | exact HB.out | apply below_alloc | apply pw_below_drewN | apply below_drew1) | exact HB.out)))); have n1_ := Aside0.mk (below_step (by repeat (first | (with_reducible first | exact HB.out | apply below_alloc | apply pw_below_drewN | apply below_drew1) | exact HB.out)) hb); clear HB; have HO772 := n0_; have HB := n1_; clear n0_ n1_; clear hb ho22; obtain ⟨Ao23, co23, eo23⟩ := Kd.R_slice HO772.out; subst eo23) | ((with_reducible refine gate_callee (f := 69) rfl ?_); refine goesL_ (some 50) rfl rfl Tryd.func69 (by kernel_rfl) rfl #[.slice Ao23 y770.length co23] rfl (by (try simp only [List.map_toArray, List.map_cons, List.map_nil]); first | done | rfl | (simp only [List.length_drop, List.length_take]; rfl)) ?_; (with_reducible refine (spec_bytesOf.calls k _ _ y770 t773 _ ?side1 ?side2 A20.out).mono ?_); (case side1 => repeat (first | exact (Kd.R_reads' HO772.out).2.2 | (with_reducible refine Kd.C_alloc ?_ _) | (with_reducible refine Kd.C_drewN ?_ _) | (with_reducible refine Kd.C_drew ?_))); (case side2 => exact (Kd.R_reads' HO772.out).2.1); rintro e w24 ⟨rfl, hb⟩; refine ⟨_, rfl, ?_⟩; have n0_ := Aside0.mk (Kd.R_below (by (with_reducible repeat (first | apply Kd.R_alloc | apply Kd.R_drewN | apply Kd.R_drew)); exact HO772.out) hb); have n1_ := Aside0.mk (below_step (by repeat (first | (with_reducible first | exact HB.out | apply below_alloc | apply pw_below_drewN | apply below_drew1) | exact HB.out)) hb); clear HO772; clear HB; have HO772 := n0_; have HB := n1_; clear n0_ n1_; (try clear hb); (try clear hb2); (try clear hk); (try clear hi)))
        go_ret
        exact ⟨by first | rfl | (simp [errW_none, errW_some] <;> rfl) | (simp [*, errW_none, errW_some] <;> rfl), by repeat (first | (with_reducible first | exact HB.out | apply below_alloc | apply pw_below_drewN | apply below_drew1) | exact HB.out)⟩

end Go.Proofs.YtgflhmihmdflcaaDoor.PFnExportNames
