/-
  FnAdvance: the walks of the thin package's Advance and of the law: both ways of moving a place agree with the reference's.
  Conditions: the two tables of package utf8 as the program lays them.
-/
import Derived.Test.YtbgghgibkjoopaaDoorFnAdvanceBytes
import Derived.Test.YtbgghgibkjoopaaDoorFnAdvancePlaces
import Derived.Lib.ConvBytes
namespace Go.Proofs.YtbgghgibkjoopaaDoor.fnAdvance
open Go.RowKit Go.Proofs.YtbgghgibkjoopaaDoorW.PrintWords Go.Proofs.YtbgghgibkjoopaaDoor.PFnAdvance Go.Proofs.YtbgghgibkjoopaaDoor.runes
set_option linter.unusedVariables false
set_option linter.unusedSimpArgs false

theorem Tables.below {w w1 : World} (ht : Tables w) (h : Below w.heap.size w w1) : Tables w1 := by
  obtain ⟨h2, hT, t⟩ := ht
  have e0 : ∀ j, w1.cell? ⟨0, j, none⟩ = w.cell? ⟨0, j, none⟩ := fun j => h.cell (p := ⟨0, j, none⟩) (by show 0 < _; omega)
  have e1 : ∀ j, w1.cell? ⟨1, j, none⟩ = w.cell? ⟨1, j, none⟩ := fun j => h.cell (p := ⟨1, j, none⟩) (by show 1 < _; omega)
  refine ⟨Nat.le_trans h2 h.size, fun b a1 a2 => (e0 b).trans (hT b a1 a2), ?_⟩
  simp only [e1]
  exact t
theorem nb_getD (s : ByteArray) (j : Nat) (hj : j < s.size) : (s.data.toList.getD j 0).toNat = nb s j := by
  rw [nb_in s j hj]
  have h' : j < s.data.toList.length := by simpa using hj
  have : s.data.toList.getD j 0 = s.data.toList[j] := by simp [List.getD, List.getElem?_eq_getElem h']
  rw [this]
  rfl
theorem bytes_below (W : World) (s : ByteArray) : Below W.heap.size W (Lib.bytesWorld W 5 s) := by
  refine ⟨?_, ?_, ?_, by rw [Lib.bytesWorld_size]; omega, fun k hk => Lib.bytesWorld_at_old W 5 s k hk⟩ <;> simp [Lib.bytesWorld, World.freeze, World.alloc, World.drew, -World.alloc_eq, -World.drew_eq]

set_option maxHeartbeats 8000000 in
set_option maxRecDepth 100000 in
theorem advance (s : ByteArray) (l0 c0 : Nat) (bs : Bool) (w : World) (ht : Tables w) (hs : s.size ≤ 65536) (hl : l0 ≤ 1073741824) (hc : c0 ≤ 1073741824) (hw : wfb s s.size 0 = true) :
    Calls Tryd.prog 6 #[.int .i64 l0, .int .i64 c0, .string s, .bool bs] w fun e w' => e = .returned (.tuple #[.int .i64 (go 1 s s.size 0 l0 c0).1, .int .i64 (go 1 s s.size 0 l0 c0).2]) ∧ Below w.heap.size w w' := by
  have s1 : (s.size : Int) ≤ 65536 := by omega
  have hS := fun (b : Nat) (w : World) => advString s b l0 c0 w hs hl hc hw
  have hB := fun (b g cp0 : Nat) (w : World) => advBytes s b g l0 c0 cp0 w hs hl hc hw
  generalize go 1 s s.size 0 l0 c0 = res at hS hB ⊢
  have HS := Lib.hid hS
  have HBY := Lib.hid hB
  have HT := Lib.hid ht
  clear ht hl hc hw hS hB
  cases bs
  · go_enter Tryd.func6, Tryd.ntmps6
    go_wp2_with (fail)
    refine (HS.out w.heap.size _ (heap_alloc_new w _)).mono ?_
    rintro e w1 ⟨rfl, hP, hB⟩
    have y0 : w1.cell? ⟨w.heap.size, 0, none⟩ = some (.int .i64 res.1) := by rw [Lib.cell_of_heap hP]; rfl
    have y1 : w1.cell? ⟨w.heap.size, 1, none⟩ = some (.int .i64 res.2) := by rw [Lib.cell_of_heap hP]; rfl
    have HB := Lib.hid (show Below w.heap.size w w1 from ((Below.refl _ _).alloc (Nat.le_refl _) _).trans hB)
    clear hP hB
    go_wp2_with (fail)
    go_quiet (fail)
    go_wp2_with (fail)
    go_ret2
    exact ⟨rfl, below_drewN HB.out _⟩
  · go_enter Tryd.func6, Tryd.ntmps6
    go_wp2_with (fail)
    rw [Lib.run_convert_string_bytes _ 9 34 5 s Tryd.underlying9 Tryd.underlying34 Tryd.underlying5]
    have hA0 : Below w.heap.size w (w.alloc (Obj.cells #[Value.int IntKind.i64 l0, Value.int IntKind.i64 c0] 32)) := (Below.refl _ _).alloc (Nat.le_refl _) _
    have hb0 := bytes_below (w.alloc (Obj.cells #[Value.int IntKind.i64 l0, Value.int IntKind.i64 c0] 32)) s
    have hh0 : (Lib.bytesWorld (w.alloc (Obj.cells #[Value.int IntKind.i64 l0, Value.int IntKind.i64 c0] 32)) 5 s).heap[w.heap.size]? = some (Obj.cells #[Value.int IntKind.i64 l0, Value.int IntKind.i64 c0] 32) := by
      rw [Lib.bytesWorld_at_old _ _ _ _ (by simp)]
      exact heap_alloc_new w _
    have hcl := fun j (hj : j < s.size) => (Lib.bytesWorld_cell (w.alloc (Obj.cells #[Value.int IntKind.i64 l0, Value.int IntKind.i64 c0] 32)) 5 s j hj).trans (by rw [nb_getD s j hj])
    have hsz := Lib.bytesWorld_size (w.alloc (Obj.cells #[Value.int IntKind.i64 l0, Value.int IntKind.i64 c0] 32)) 5 s
    have hcap : s.size ≤ grownCap (w.alloc (Obj.cells #[Value.int IntKind.i64 l0, Value.int IntKind.i64 c0] 32)) s.size 0 5 := grownCap_ge _ _ _ _
    generalize grownCap (w.alloc (Obj.cells #[Value.int IntKind.i64 l0, Value.int IntKind.i64 c0] 32)) s.size 0 5 = cp at hcap ⊢
    generalize Lib.bytesWorld (w.alloc (Obj.cells #[Value.int IntKind.i64 l0, Value.int IntKind.i64 c0] 32)) 5 s = W2 at hb0 hh0 hcl hsz ⊢
    have es : (w.alloc (Obj.cells #[Value.int IntKind.i64 l0, Value.int IntKind.i64 c0] 32)).heap.size = w.heap.size + 1 := by simp
    rw [es] at hcl hsz hb0 ⊢
    have HH := Lib.hid hh0
    have HCL := Lib.hid hcl
    have HB2 := Lib.hid (show Below w.heap.size w W2 from hA0.trans (hb0.mono (by omega)))
    have HTT := Lib.hid (HT.out.below HB2.out)
    have HSZ := Lib.hid hsz
    clear hh0 hcl hb0 hA0 es hsz
    go_wp2_with (fail)
    refine (HBY.out w.heap.size (w.heap.size + 1) cp W2 HTT.out (HT.out.1) (by omega) (by have := HSZ.out; omega) hcap HCL.out HH.out _ (fun _ => rfl)).mono ?_
    rintro e w1 ⟨rfl, hP, hK⟩
    have y0 : w1.cell? ⟨w.heap.size, 0, none⟩ = some (.int .i64 res.1) := by rw [Lib.cell_of_heap hP]; rfl
    have y1 : w1.cell? ⟨w.heap.size, 1, none⟩ = some (.int .i64 res.2) := by rw [Lib.cell_of_heap hP]; rfl
    have HB := Lib.hid (show Below w.heap.size w w1 from HB2.out.trans hK.1)
    clear hP hK
    go_wp2_with (fail)
    go_quiet (fail)
    go_wp2_with (fail)
    go_ret2
    exact ⟨rfl, below_drewN HB.out _⟩
def tA : ByteArray := ⟨#[97]⟩
theorem go_a : go 1 tA tA.size 0 0 0 = (0, 1) := by decide +kernel
theorem wf_a : wfb tA tA.size 0 = true := by decide +kernel

set_option maxHeartbeats 16000000 in
set_option maxRecDepth 100000 in
theorem law (a0 a1 : Int) (s : ByteArray) (bs : Bool) (w : World) (ht : Tables w) : Calls Tryd.prog 3 #[.int .i64 a0, .int .i64 a1, .string s, .bool bs] w fun e w' => e = .returned (.bool true) ∧ Below w.heap.size w w' := by
  have HT := Lib.hid ht
  clear ht
  by_cases hbig : s.size ≤ 2147483647
  · have hbig' : (s.size : Int) ≤ 2147483647 := by omega
    by_cases t1 : a0 < 0
    · go_enter Tryd.func3, Tryd.ntmps3
      go_wp2_with (fail)
      go_ret
      exact ⟨rfl, Below.refl _ _⟩
    · have t1' : 0 ≤ a0 := by omega
      by_cases t2 : 1073741824 < a0
      · go_enter Tryd.func3, Tryd.ntmps3
        go_wp2_with (fail)
        go_ret
        exact ⟨rfl, Below.refl _ _⟩
      · have t2' : a0 ≤ 1073741824 := by omega
        by_cases t3 : a1 < 0
        · go_enter Tryd.func3, Tryd.ntmps3
          go_wp2_with (fail)
          go_ret
          exact ⟨rfl, Below.refl _ _⟩
        · have t3' : 0 ≤ a1 := by omega
          by_cases t4 : 1073741824 < a1
          · go_enter Tryd.func3, Tryd.ntmps3
            go_wp2_with (fail)
            go_ret
            exact ⟨rfl, Below.refl _ _⟩
          · have t4' : a1 ≤ 1073741824 := by omega
            by_cases t5 : (65536 : Int) < s.size
            · go_enter Tryd.func3, Tryd.ntmps3
              go_wp2_with (fail)
              go_ret
              exact ⟨rfl, Below.refl _ _⟩
            · have t5' : s.size ≤ 65536 := by omega
              obtain ⟨l0, rfl⟩ : ∃ l0 : Nat, a0 = l0 := ⟨a0.toNat, by omega⟩
              obtain ⟨c0, rfl⟩ : ∃ c0 : Nat, a1 = c0 := ⟨a1.toNat, by omega⟩
              obtain ⟨kw, hwf⟩ := wf_f s (by omega)
              cases hw : wfb s s.size 0
              · rw [hw] at hwf
                go_enter Tryd.func3, Tryd.ntmps3
                go_wp2_with (fail)
                refine (spec_WellFormed.calls kw s false _ hwf).mono ?_
                rintro e w1 ⟨rfl, hd⟩
                have HB := Lib.hid hd.below
                clear hd
                go_wp2_with (fail)
                go_ret
                exact ⟨rfl, HB.out⟩
              · rw [hw] at hwf
                have hl : l0 ≤ 1073741824 := by omega
                have hc : c0 ≤ 1073741824 := by omega
                have HP := Lib.hid (fun w => places s l0 c0 w t5' hl hc hw)
                have HA := Lib.hid (fun w ht => advance s l0 c0 bs w ht t5' hl hc hw)
                have hk := go_k 1 s s.size 0 l0 c0 (by omega)
                have HP2 := HP.out
                have HA2 := HA.out
                rw [hk] at HA2
                have HPP := Lib.hid HP2
                have HAA := Lib.hid HA2
                clear HP HA HP2 HA2 hk hw hl hc
                generalize go 0 s s.size 0 l0 c0 = res at HPP HAA
                go_enter Tryd.func3, Tryd.ntmps3
                go_wp2_with (fail)
                refine (spec_WellFormed.calls kw s true _ hwf).mono ?_
                rintro e w1 ⟨rfl, hd⟩
                have HB := Lib.hid hd.below
                clear hd
                go_wp2_with (fail)
                refine (HPP.out _).mono ?_
                rintro e w2 ⟨rfl, hb2⟩
                have HB2 := Lib.hid (HB.out.trans (hb2.mono HB.out.size))
                clear hb2 HB HPP
                go_wp2_with (fail)
                have HW3 := Lib.hid (heap_alloc_new w2 (Obj.cells #[Value.int IntKind.i64 res.1, Value.int IntKind.i64 res.2] 24))
                have hb3 : Below w.heap.size w (w2.alloc (Obj.cells #[Value.int IntKind.i64 res.1, Value.int IntKind.i64 res.2] 24)) := HB2.out.alloc HB2.out.size _
                refine (HAA.out _ (HT.out.below hb3)).mono ?_
                rintro e w4 ⟨rfl, hb4⟩
                have hc4 : w4.heap[w2.heap.size]? = some (Obj.cells #[Value.int IntKind.i64 res.1, Value.int IntKind.i64 res.2] 24) := (hb4.block _ (by simp)).trans HW3.out
                have hs4 : w2.heap.size < w4.heap.size := (Array.getElem?_eq_some_iff.1 hc4).1
                have HB4 := Lib.hid (show Below w.heap.size w w4 from hb3.trans (hb4.mono (by have := HB2.out.size; simp; omega)))
                have HC4 := Lib.hid hc4
                clear hb4 hc4 hb3 HW3
                go_wp2_with (fail)
                refine (advance tA 0 0 bs _ (HT.out.below HB4.out) (by decide) (by decide) (by decide) wf_a).mono ?_
                rintro e w5 ⟨rfl, hb5⟩
                rw [go_a]
                have hc5 : w5.heap[w2.heap.size]? = some (Obj.cells #[Value.int IntKind.i64 res.1, Value.int IntKind.i64 res.2] 24) := (hb5.block _ hs4).trans HC4.out
                have y0 : w5.cell? ⟨w2.heap.size, 0, none⟩ = some (.int .i64 res.1) := by rw [Lib.cell_of_heap hc5]; rfl
                have y1 : w5.cell? ⟨w2.heap.size, 1, none⟩ = some (.int .i64 res.2) := by rw [Lib.cell_of_heap hc5]; rfl
                have HB5 := Lib.hid (HB4.out.trans (hb5.mono HB4.out.size))
                clear hb5 hc5
                go_wp2_with (fail)
                go_ret
                exact ⟨rfl, HB5.out⟩
  · have hbig' : (2147483647 : Int) < s.size := by omega
    go_enter Tryd.func3, Tryd.ntmps3
    go_wp2_with (fail)
    go_ret
    exact ⟨rfl, Below.refl _ _⟩
end Go.Proofs.YtbgghgibkjoopaaDoor.fnAdvance
