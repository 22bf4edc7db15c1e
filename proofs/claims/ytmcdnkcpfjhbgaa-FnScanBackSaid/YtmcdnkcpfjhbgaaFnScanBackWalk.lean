/-
  The walks for FnScanBack: impl.counts copies 64 numbers into an array, (*CharFreq).Scan scans it, impl.Scan hands back the scanned numbers in new memory.
  Conditions: 64 numbers that fit int32, texts of at most 2^47 bytes.
-/
import Derived.Test.YtmcdnkcpfjhbgaaRows
import Derived.Test.YtmcdnkcpfjhbgaaWWords
import Derived.Test.YtmcdnkcpfjhbgaaFnScanBackPure
import Derived.WalkKit
import Derived.Laws.Rows
import Derived.Laws.Tables
import Derived.Laws.CopyOwn
import Derived.RegionTactic
import Derived.Lib.Hide
import Derived.Deep.QuietTactic
import Derived.BigQuiet
namespace Go.Proofs.Ytmcdnkcpfjhbgaa.fnScanBack
open Go.RowKit Go.Proofs.YtmcdnkcpfjhbgaaW.PrintWords Go.Proofs.Ytmcdnkcpfjhbgaa.scanPure
set_option linter.unusedVariables false

theorem info75 : (Try.prog.info? 75).map (·.size) = some 64 := by kernel_rfl
def zer : List Value := List.replicate 64 (.int .i32 0)
def cellsOf (zs : List Int) : List Value := zs.map (Value.int .i32)

theorem reads_cell {w : World} {zs : List Int} {n : Nat} {ad : Addr} (hn : zs.length = n) (hr : Kd.C (Kd.int .i32) w (some ad) n zs) (j : Nat) (v : Value) (h : (cellsOf zs)[j]? = some v) : w.cell? (ad.add j) = some v := by
  have hj : j < zs.length := by
    have := (List.getElem?_eq_some_iff.1 h).1
    simpa [cellsOf] using this
  obtain ⟨h1, h2, h3⟩ := hr
  obtain ⟨ad', e, hc⟩ := h3 (by omega)
  obtain rfl : ad = ad' := by simpa using e
  obtain ⟨c, hl, hR, hcell⟩ := hc j _ (List.getElem?_eq_getElem hj)
  have hc' : c = [Value.int .i32 zs[j]] := hR
  subst hc'
  have := hcell 0 _ rfl
  rw [show (Kd.int .i32).sz = 1 from rfl, Nat.mul_one, Nat.add_zero] at this
  rw [this, ← h]
  simp [cellsOf, hj]

theorem one_cells (zs : List Int) : ∀ v ∈ cellsOf zs, v.oneCell' = true := by
  intro v hv
  obtain ⟨x, _, rfl⟩ := List.mem_map.1 hv
  rfl

theorem splice_all (L cs : List Value) (h : L.length = cs.length) : splice L 0 cs = cs := by
  simp [splice, h]

set_option maxHeartbeats 1000000 in
set_option maxRecDepth 100000 in
theorem counts (zs : List Int) (hz : zs.length = 64) (ad : Addr) (cap : Nat) (w : World) (hr : Kd.C (Kd.int .i32) w (some ad) 64 zs) :
    Calls Try.prog 30 #[.slice (some ad) 64 cap] w fun e w' => e = .returned (.agg (cellsOf zs).toArray) ∧ Below w.heap.size w w' := by
  have hl : ad.block < w.heap.size := by
    have := reads_cell hz hr 0 (.int .i32 (zs.getD 0 0)) (by simp [cellsOf, List.getD_eq_getElem?_getD, show 0 < zs.length by omega])
    simpa [Addr.add] using block_lt_of_cell this
  go_enter Try.func30, Try.ntmps30
  go_wp2_with (with_reducible refine wpList_copy_splice rfl (.tmp 4) (.tmp 5) 37 37 rfl 21 Try.underlying37 (by kernel_rfl) (some ⟨w.heap.size + 1, 0, none⟩) (some ad) 64 64 64 cap rfl rfl (w.heap.size + 1) 0 zer 75 ?hg (cellsOf zs) ?hn ?hpos ?hfit ?h1 (w.heap.size + 1) (w.alloc (.cells zer.toArray 75)) ?hb (Nat.le_refl _) ?_)
  case hg => exact heap_alloc2_new w (.cells zer.toArray 75) (.cells zer.toArray 75)
  case hn => simpa [cellsOf] using hz
  case hpos =>
    intro _ j v h
    have hc := reads_cell hz hr j v h
    have hl' : (ad.add j).block < w.heap.size := block_lt_of_cell hc
    have e1 := World.cell?_alloc_lt (w := w) (a := ad.add j) (o := .cells zer.toArray 75) hl'
    have e2 := World.cell?_alloc_lt (w := w.alloc (.cells zer.toArray 75)) (a := ad.add j) (o := .cells zer.toArray 75) (by simp; omega)
    exact (e2.trans e1).trans hc
  case hfit => simp [cellsOf, hz, zer]
  case h1 => exact one_cells zs
  case hb => exact Below.alloc (B := w.heap.size + 1) (a := w.alloc (.cells zer.toArray 75)) (w := w.alloc (.cells zer.toArray 75)) (Below.refl _ _) (by simp) (.cells zer.toArray 75)
  intro w1 hg1 hb1
  rw [splice_all _ _ (by simp [cellsOf, zer, hz])] at hg1
  have hg0 : w1.heap[w.heap.size]? = some (.cells zer.toArray 75 (0, 0)) := (hb1.block _ (Nat.lt_succ_self _)).trans (heap_alloc_new w (.cells zer.toArray 75))
  have hlen : (cellsOf zs).length = 64 := by simpa [cellsOf] using hz
  go_wp2_with (first
    | (with_reducible refine wpList_load_row rfl 75 (.tmp 3) rfl (w.heap.size + 1) rfl 75 (cellsOf zs).toArray (0, 0) _ hg1.out Try.underlying75 rfl ?hi ?_)
    | (with_reducible refine wpList_store_row rfl 75 (.tmp 2) (.tmp 7) rfl w.heap.size (cellsOf zs).toArray rfl rfl 75 zer.toArray hg0 ?hi2 ?hold ?ho ?_))
  case hi => rw [info75]; simp [hlen]
  case hi2 => rw [info75]; simp [hlen]
  case hold => simp [hlen, zer]
  case ho => simpa [Array.all_eq_true_iff_forall_mem] using one_cells zs
  have hg2 : (w1.setRow w.heap.size (cellsOf zs).toArray).heap[w.heap.size]? = some (.cells (cellsOf zs).toArray 75 (0, 0)) := setRow_heap w1 w.heap.size _ _ 75 (0, 0) hg0
  have hb2 : Below w.heap.size w w1 := (Below.alloc (Below.refl _ _) (Nat.le_refl _) _).trans (hb1.mono (by omega))
  exact bodyPost_ret (v := .agg (cellsOf zs).toArray) (results_cell_row rfl _ _ w.heap.size 75 _ (0, 0) _ rfl hg2 Try.underlying75 rfl (by rw [info75]; simp [hlen])) rfl ⟨rfl, below_setRow hb2 (Nat.le_refl _) _⟩
theorem cell_at {wr : World} {g : Nat} {Z : List Int} (hgk : wr.heap[g]? = some (.cells (cellsOf Z).toArray 75 (0, 0))) (hl : Z.length = 64) (j : Nat) (hj : j < 64) : wr.cell? ⟨g, j, none⟩ = some (.int .i32 (Z[j]?.getD 0)) := by
  rw [blk_cell hgk j]
  have : j < Z.length := by omega
  simp [cellsOf, this]

theorem rel_next {wr : World} {g : Nat} {zs : List Int} {s : ByteArray} {d : Int} {k j : Nat} (hgk : wr.heap[g]? = some (.cells (cellsOf (scan d (s.data.toList.take k) zs)).toArray 75 (0, 0))) (hl : (scan d (s.data.toList.take k) zs).length = 64)
    (h0 : k < s.data.toList.length) (hi : idx s.data.toList[k] = some j) :
    (wr.setCell ⟨g, j, none⟩ (.int .i32 (wrap32 ((scan d (s.data.toList.take k) zs)[j]?.getD 0 + d)))).drew.heap[g]? = some (.cells (cellsOf (scan d (s.data.toList.take (k + 1)) zs)).toArray 75 (0, 0)) := by
  rw [List.take_succ_eq_append_getElem h0, scan_snoc]
  unfold scanPure.step
  rw [hi]
  refine (blk_drew (blk_set hgk j _)).trans ?_
  simp [cellsOf, bump, List.map_set, List.getD_eq_getElem?_getD]

theorem below_next {B g : Nat} {w wr : World} (h : Below B w wr) (hB : B ≤ g) (j : Nat) (v : Value) : Below B w (wr.setCell ⟨g, j, none⟩ v).drew := (h.setCell (p := ⟨g, j, none⟩) hB v).drew

set_option maxHeartbeats 2000000 in
set_option maxRecDepth 100000 in
/-- function 31, (*CharFreq).Scan, of a histogram in block g: it is scanned; all below block B stands -/
theorem scanCall (zs : List Int) (hz : zs.length = 64) (g : Nat) (s : ByteArray) (d : Int) (w : World) (hs : s.size ≤ 140737488351232) (hd : (d == 0) = false) (hg : w.heap[g]? = some (.cells (cellsOf zs).toArray 75 (0, 0))) (B : Nat) (hB : B ≤ g) :
    Calls Try.prog 31 #[.pointer (some ⟨g, 0, none⟩), .string s, .int .i32 d] w fun e w' => e = .returned (.tuple #[]) ∧ w'.heap[g]? = some (.cells (cellsOf (scan d s.data.toList zs)).toArray 75 (0, 0)) ∧ Below B w w' := by
  go_enter Try.func31, Try.ntmps31
  go_wp2
  go_loopw [6] (fun i wr => ∃ k : Nat, k ≤ s.size ∧ i = .int .i64 k ∧ wr.heap[g]? = some (.cells (cellsOf (scan d (s.data.toList.take k) zs)).toArray 75 (0, 0)) ∧ Below B w wr) (fun i _ => s.size - (intOf i).toNat)
  case atStart => exact ⟨0, Nat.zero_le _, rfl, by simpa [scan] using hg, Below.refl _ _⟩
  case round =>
    obtain ⟨k, hk, rfl, hgk, hbk⟩ := hrel
    clear hg
    have hl : (scan d (s.data.toList.take k) zs).length = 64 := by rw [scan_length, hz]
    have HL := Lib.hid hl
    clear hl
    by_cases hlt : k < s.size
    · have h0 : k < s.data.toList.length := by simpa using hlt
      have hsk : s.data.toList[k] = s[k] := rfl
      by_cases c1 : 97 ≤ s[k].toNat ∧ s[k].toNat ≤ 122
      · obtain ⟨j, hj⟩ : ∃ j, s[k].toNat = j + 97 := ⟨s[k].toNat - 97, by omega⟩
        have hi : idx s.data.toList[k] = some j := by rw [hsk]; unfold idx; rw [if_pos c1]; congr 1; omega
        have c2 : 97 ≤ (s[k].toNat : Int) := by omega
        have c3 : (s[k].toNat : Int) ≤ 122 := by omega
        have e0 : IntKind.u8.wrap ((s[k].toNat : Int) - 97) = (j : Int) := by rw [IntKind.wrap_u8]; omega
        have E0 := Lib.hid e0
        have hl := HL.out
        have hj1 : (j : Int) < 64 := by omega
        have hj0 : (0 : Int) ≤ (j : Int) := by omega
        have HC := Lib.hid (cell_at hgk hl j (by omega))
        have HF := Lib.hid (blk_frozen hgk j)
        have HG := Lib.hid hgk
        clear hgk
        have HI := Lib.hid hi
        clear hi hj e0 hsk c1 hl
        go_wp2
        have hc := HC.out
        have hf := HF.out
        have e1 := E0.out
        go_region
        clear hc hf e1
        go_wp2
        go_roundw
        case rel => exact ⟨k + 1, by omega, by go_num, rel_next HG.out HL.out h0 HI.out, below_next hbk hB _ _⟩
        case measure => simp [intOf]; omega
      · by_cases c2 : 65 ≤ s[k].toNat ∧ s[k].toNat ≤ 90
        · obtain ⟨j, hj⟩ : ∃ j, s[k].toNat = j + 39 := ⟨s[k].toNat - 39, by omega⟩
          have hi : idx s.data.toList[k] = some j := by rw [hsk]; unfold idx; rw [if_neg c1, if_pos c2]; congr 1; omega
          have c3 : 65 ≤ (s[k].toNat : Int) := by omega
          have c4 : (s[k].toNat : Int) ≤ 90 := by omega
          have e0 : IntKind.u8.wrap ((s[k].toNat : Int) - 39) = (j : Int) := by rw [IntKind.wrap_u8]; omega
          have E0 := Lib.hid e0
          have hl := HL.out
          have hj1 : (j : Int) < 64 := by omega
          have hj0 : (0 : Int) ≤ (j : Int) := by omega
          have HC := Lib.hid (cell_at hgk hl j (by omega))
          have HF := Lib.hid (blk_frozen hgk j)
          have HG := Lib.hid hgk
          clear hgk
          have HI := Lib.hid hi
          clear hi hj e0 hsk c1 c2 hl
          go_wp2
          have hc := HC.out
          have hf := HF.out
          have e1 := E0.out
          go_region
          clear hc hf e1
          go_wp2
          go_roundw
          case rel => exact ⟨k + 1, by omega, by go_num, rel_next HG.out HL.out h0 HI.out, below_next hbk hB _ _⟩
          case measure => simp [intOf]; omega
        · by_cases c3 : 48 ≤ s[k].toNat ∧ s[k].toNat ≤ 57
          · obtain ⟨j, hj⟩ : ∃ j, s[k].toNat + 4 = j := ⟨_, rfl⟩
            have hi : idx s.data.toList[k] = some j := by rw [hsk]; unfold idx; rw [if_neg c1, if_neg c2, if_pos c3, hj]
            have c4 : 48 ≤ (s[k].toNat : Int) := by omega
            have c5 : (s[k].toNat : Int) ≤ 57 := by omega
            have e0 : IntKind.u8.wrap ((s[k].toNat : Int) + 4) = (j : Int) := by rw [IntKind.wrap_u8]; omega
            have E0 := Lib.hid e0
            have hl := HL.out
            have hj1 : (j : Int) < 64 := by omega
            have hj0 : (0 : Int) ≤ (j : Int) := by omega
            have HC := Lib.hid (cell_at hgk hl j (by omega))
            have HF := Lib.hid (blk_frozen hgk j)
            have HG := Lib.hid hgk
            clear hgk
            have HI := Lib.hid hi
            clear hi hj e0 hsk c1 c2 c3 hl
            go_wp2
            have hc := HC.out
            have hf := HF.out
            have e1 := E0.out
            go_region
            clear hc hf e1
            go_wp2
            go_roundw
            case rel => exact ⟨k + 1, by omega, by go_num, rel_next HG.out HL.out h0 HI.out, below_next hbk hB _ _⟩
            case measure => simp [intOf]; omega
          · by_cases c4 : s[k].toNat = 95
            · obtain ⟨j, hj⟩ : ∃ j, j = 62 := ⟨_, rfl⟩
              have hi : idx s.data.toList[k] = some j := by rw [hsk]; unfold idx; rw [if_neg c1, if_neg c2, if_neg c3, if_pos c4, hj]
              have c5 : ((s[k].toNat : Int) == 95) = true := by simp [c4]
              have c6 : 90 < (s[k].toNat : Int) := by omega
              have c7 : (s[k].toNat : Int) < 97 := by omega
              clear c4
              subst hj
              have hl := HL.out
              have hj1 : ((62 : Nat) : Int) < 64 := by omega
              have hj0 : (0 : Int) ≤ ((62 : Nat) : Int) := by omega
              have HC := Lib.hid (cell_at hgk hl 62 (by omega))
              have HF := Lib.hid (blk_frozen hgk 62)
              have HG := Lib.hid hgk
              clear hgk
              have HI := Lib.hid hi
              clear hi hsk c1 c2 c3 hl
              go_wp2
              have hc := HC.out
              have hf := HF.out
              go_region
              clear hc hf
              go_wp2
              go_roundw
              case rel => exact ⟨k + 1, by omega, by go_num, rel_next HG.out HL.out h0 HI.out, below_next hbk hB _ _⟩
              case measure => simp [intOf]; omega
            · by_cases c5 : s[k].toNat = 36
              · obtain ⟨j, hj⟩ : ∃ j, j = 63 := ⟨_, rfl⟩
                have hi : idx s.data.toList[k] = some j := by rw [hsk]; unfold idx; rw [if_neg c1, if_neg c2, if_neg c3, if_neg c4, if_pos c5, hj]
                have c6 : ((s[k].toNat : Int) == 36) = true := by simp [c5]
                have c7 : ((s[k].toNat : Int) == 95) = false := by simp [c5]
                have c8 : (s[k].toNat : Int) < 48 := by omega
                clear c5 c4
                subst hj
                have hl := HL.out
                have hj1 : ((63 : Nat) : Int) < 64 := by omega
                have hj0 : (0 : Int) ≤ ((63 : Nat) : Int) := by omega
                have HC := Lib.hid (cell_at hgk hl 63 (by omega))
                have HF := Lib.hid (blk_frozen hgk 63)
                have HG := Lib.hid hgk
                clear hgk
                have HI := Lib.hid hi
                clear hi hsk c1 c2 c3 hl
                go_wp2
                have hc := HC.out
                have hf := HF.out
                go_region
                clear hc hf
                go_wp2
                go_roundw
                case rel => exact ⟨k + 1, by omega, by go_num, rel_next HG.out HL.out h0 HI.out, below_next hbk hB _ _⟩
                case measure => simp [intOf]; omega
              · have hi : idx s.data.toList[k] = none := by rw [hsk]; unfold idx; rw [if_neg c1, if_neg c2, if_neg c3, if_neg c4, if_neg c5]
                have d1 : ((s[k].toNat : Int) == 95) = false := by simp; omega
                have d2 : ((s[k].toNat : Int) == 36) = false := by simp; omega
                have hnext : wr.heap[g]? = some (.cells (cellsOf (scan d (s.data.toList.take (k + 1)) zs)).toArray 75 (0, 0)) := by
                  rw [List.take_succ_eq_append_getElem h0, scan_snoc]
                  unfold scanPure.step
                  rw [hi]
                  exact hgk
                have HG := Lib.hid hnext
                clear hnext hgk hi hsk c4 c5
                go_wp2
                all_goals
                  go_roundw
                  case rel => exact ⟨k + 1, by omega, by go_num, HG.out, hbk⟩
                  case measure => simp [intOf]; omega
    · have hks : k = s.size := by omega
      have hend : wr.heap[g]? = some (.cells (cellsOf (scan d s.data.toList zs)).toArray 75 (0, 0)) := by
        rw [List.take_of_length_le (by simp; omega)] at hgk
        exact hgk
      have HG := Lib.hid hend
      clear hend hgk hks
      go_wp2
      go_end0
      exact ⟨rfl, HG.out, hbk⟩

/-- d = 0: nothing is scanned -/
theorem scanZero (g : Nat) (s : ByteArray) (w : World) :
    Calls Try.prog 31 #[.pointer (some ⟨g, 0, none⟩), .string s, .int .i32 0] w fun e w' => e = .returned (.tuple #[]) ∧ w' = w := by
  go_enter Try.func31, Try.ntmps31
  go_wp2
  exact bodyPost_ret (results_none rfl _ _ _) rfl ⟨rfl, rfl⟩

/-- function 31 of every d -/
theorem scanAny (zs : List Int) (hz : zs.length = 64) (hf : Fits zs) (g : Nat) (s : ByteArray) (d : Int) (w : World) (hs : s.size ≤ 140737488351232) (hg : w.heap[g]? = some (.cells (cellsOf zs).toArray 75 (0, 0))) (B : Nat) (hB : B ≤ g) :
    Calls Try.prog 31 #[.pointer (some ⟨g, 0, none⟩), .string s, .int .i32 d] w fun e w' => e = .returned (.tuple #[]) ∧ w'.heap[g]? = some (.cells (cellsOf (scan d s.data.toList zs)).toArray 75 (0, 0)) ∧ Below B w w' := by
  by_cases h : d = 0
  · subst h
    refine (scanZero g s w).mono ?_
    rintro e w' ⟨rfl, rfl⟩
    rw [scan_zero _ _ hz hf]
    exact ⟨rfl, hg, Below.refl _ _⟩
  · exact scanCall zs hz g s d w hs (by simpa using h) hg B hB

theorem reads_of {w : World} {zs : List Int} {n : Nat} {ad : Addr} (hn : zs.length = n) (hm : n ≤ 9223372036854775807) (h : ∀ j v, (cellsOf zs)[j]? = some v → w.cell? (ad.add j) = some v) : Kd.C (Kd.int .i32) w (some ad) n zs := by
  refine ⟨hn, hm, fun _ => ⟨ad, rfl, fun j p hp => ⟨[.int .i32 p], rfl, rfl, fun i u hu => ?_⟩⟩⟩
  have hi : i = 0 := by
    have := (List.getElem?_eq_some_iff.1 hu).1
    simpa using this
  subst hi
  have hu' : u = .int .i32 p := by simpa using hu.symm
  subst hu'
  have := h j (.int .i32 p) (by simp [cellsOf, hp])
  rw [show (Kd.int .i32).sz = 1 from rfl, Nat.mul_one, Nat.add_zero]
  exact this

/-- what a scan hands back -/
def Scanned (zs : List Int) (w : World) (e : Ending) (w' : World) : Prop :=
  ∃ g c, 64 ≤ c ∧ e = .returned (.slice (some ⟨g, 0, none⟩) 64 c) ∧ Kd.C (Kd.int .i32) w' (some ⟨g, 0, none⟩) 64 zs ∧ Below w.heap.size w w'

theorem info21 : (Try.prog.info? 21).map (fun i => (i.zero, i.size, i.bytes)) = some (some (.int .i32 0), 1, 4) := by kernel_rfl

theorem scanned_of {w W w' : World} {v' : Value} {zs : List Int} (hz : zs.length = 64) (hown : w'.ownsRow w.heap.size 21 1 v' 64 (cellsOf zs)) (hb : Below w.heap.size w W) {base : Option Nat} (hg : W.grownBy w' base) (hbase : ∀ k, base = some k → w.heap.size ≤ k) :
    Scanned zs w (.returned v') w' := by
  obtain ⟨hlen, h⟩ := hown
  rcases h with ⟨_, h⟩ | ⟨g, cap, cur, rfl, hgB, hh, hc, hcm, hcs, htake⟩
  · omega
  · refine ⟨g, cap, hc, rfl, reads_of hz (by decide) (fun j v hv => ?_), ?_⟩
    · have e : (⟨g, 0, none⟩ : Addr).add j = ⟨g, j, none⟩ := by unfold Addr.add; split <;> simp_all
      rw [e, blk_cell hh j]
      rw [← htake] at hv
      have := List.getElem?_take (l := cur.toList) (i := 64 * 1) (j := j)
      rw [this] at hv
      split at hv
      · rw [← hv]
        simp
      · cases hv
    · exact hb.grown hg (by have := hb.size; omega) hbase

set_option maxHeartbeats 2000000 in
set_option maxRecDepth 100000 in
/-- function 19, impl.Scan -/
theorem scanImpl (zs : List Int) (hz : zs.length = 64) (hf : Fits zs) (ad : Addr) (cap : Nat) (s : ByteArray) (d : Int) (w : World) (hs : s.size ≤ 140737488351232) (hr : Kd.C (Kd.int .i32) w (some ad) 64 zs) :
    Calls Try.prog 19 #[.slice (some ad) 64 cap, .string s, .int .i32 d] w fun e w' => Scanned (scan d s.data.toList zs) w e w' := by
  obtain ⟨i0, hi, hz0, hz1, hz2⟩ := info_parts info21
  go_enter Try.func19, Try.ntmps19
  go_wp2_with (fail)
  refine (counts zs hz ad cap _ hr).mono ?_
  rintro e w1 ⟨rfl, hb1⟩
  have hlen : (cellsOf zs).length = 64 := by simpa [cellsOf] using hz
  have hg0 : (w1.alloc (.cells zer.toArray 75)).heap[w1.heap.size]? = some (.cells zer.toArray 75 (0, 0)) := heap_alloc_new w1 (.cells zer.toArray 75)
  have HG0 := Lib.hid hg0
  have HLEN := Lib.hid hlen
  clear hg0 hlen
  go_wp2_with (refine wpList_store_row (o := ⟨none, .store 75 (.tmp 7) (.tmp 9), _, _, _, _⟩) rfl 75 (.tmp 7) (.tmp 9) rfl w1.heap.size (cellsOf zs).toArray rfl rfl 75 zer.toArray HG0.out ?hi2 ?hold ?ho ?_)
  case hi2 => rw [info75]; simp [HLEN.out]
  case hold => simp [HLEN.out, zer]
  case ho => simpa [Array.all_eq_true_iff_forall_mem] using one_cells zs
  refine (scanAny zs hz hf w1.heap.size s d _ hs (setRow_heap (w1.alloc (.cells zer.toArray 75)) w1.heap.size _ _ 75 (0, 0) HG0.out) w1.heap.size (Nat.le_refl _)).mono ?_
  rintro e w2 ⟨rfl, hg2, hb2⟩
  have hb3 : Below w1.heap.size w1 w2 := (below_setRow (Below.alloc (Below.refl _ _) (Nat.le_refl _) (.cells zer.toArray 75)) (Nat.le_refl _) _).trans hb2
  clear hb2
  have hb4 : Below w.heap.size w w2 := hb1.trans (hb3.mono hb1.size)
  have HG2 := Lib.hid hg2
  clear hg2
  have hsz := hb4.size
  have hsc : (cellsOf (scan d s.data.toList zs)).length = 64 := by simp [cellsOf, scan_length, hz]
  have HSC := Lib.hid hsc
  clear hsc
  obtain ⟨ZS, hZS⟩ : ∃ ZS, Hid (ZS = cellsOf (scan d s.data.toList zs)) := ⟨_, rfl⟩
  rw [← hZS.out] at HSC HG2
  go_wp2_with (at_builtin; refine wpList_append_own _ rfl (.tmp 13) (.tmp 14) 37 rfl w.heap.size 21 i0 (.int .i32 0) 1 4 Try.underlying37 hi hz0 hz1 hz2 rfl (by decide) _ 0 [] rfl ?hown ⟨w1.heap.size, 0, none⟩ 64 64 ZS rfl ?hl ?hnews ?h1 (by decide) (by decide) ?hbase ?_)
  case hown => exact ⟨rfl, .inr ⟨w2.heap.size, 0, #[], rfl, hsz, heap_alloc_new w2 _, Nat.le_refl _, by decide, rfl, rfl⟩⟩
  case hl => rw [HSC.out]
  case hnews =>
    intro j u h
    have e1 : (⟨w1.heap.size, 0, none⟩ : Addr).add j = ⟨w1.heap.size, j, none⟩ := by unfold Addr.add; split <;> simp_all
    have e2 := World.cell?_alloc_lt (w := w2) (a := ⟨w1.heap.size, j, none⟩) (o := .cells #[] 21) (blk_lt HG2.out)
    rw [e1]
    refine e2.trans ?_
    rw [blk_cell HG2.out j]
    simpa using h
  case h1 => rw [hZS.out]; exact one_cells _
  case hbase => simp; omega
  intro v' w3 hown hgr _
  go_wp2
  go_ret
  refine scanned_of (W := w2.alloc (.cells #[] 21)) (by rw [scan_length, hz]) (by rw [← hZS.out]; exact hown) (hb4.alloc hsz _) hgr (fun k hk => ?_)
  have : k = w2.heap.size := by simpa [Value.ownBlock] using hk.symm
  omega

end Go.Proofs.Ytmcdnkcpfjhbgaa.fnScanBack
