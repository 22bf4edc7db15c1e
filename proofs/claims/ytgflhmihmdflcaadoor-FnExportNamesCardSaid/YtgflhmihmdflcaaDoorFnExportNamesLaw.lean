/-
  FnExportNames: the law's own walk: it answers true.
  Conditions: the tables that the row lists hold what it says.
-/
import Derived.Test.YtgflhmihmdflcaaDoorFnExportNamesEntity
import Derived.ProofKit
namespace Go.Proofs.YtgflhmihmdflcaaDoor.fnExportNames
open Go.RowKit Go.Proofs.YtgflhmihmdflcaaDoorW.PrintWords Go.Proofs.YtgflhmihmdflcaaDoorW.PrintLast Go.Proofs.YtgflhmihmdflcaaDoorW.PrintMore Go.Proofs.YtgflhmihmdflcaaDoor.PFnExportNames
set_option linter.unusedVariables false
set_option linter.unusedSimpArgs false

theorem wrap_next (j : Nat) (h : j ≤ 2147483648) : wrap64 ((j : Int) + 1) = ((j + 1 : Nat) : Int) := by unfold wrap64; omega
theorem fits_l (ss : List ByteArray) (hn : ss.length ≤ 2147483647) : ∀ (m j : Nat), j + m = ss.length → ∃ r, laws_zzFits5.l0 (m + 1) ss (ss.length : Int) (j : Int) = some r := by
  intro m
  induction m with
  | zero =>
    intro j hj
    unfold laws_zzFits5.l0
    rw [if_neg (by omega)]
    exact ⟨_, rfl⟩
  | succ m ih =>
    intro j hj
    unfold laws_zzFits5.l0
    rw [if_pos (by omega), if_pos (by omega), if_pos (by omega)]
    obtain ⟨r2, h⟩ := ih (j + 1) (by omega)
    rw [← wrap_next j (by omega)] at h
    split
    · exact ⟨_, rfl⟩
    · exact ⟨r2, h⟩
theorem fits5 (ss : List ByteArray) : ∃ k r, laws_zzFits5.f k ss = some r ∧ (r = true → ss.length ≤ 2147483647) := by
  by_cases h : (ss.length : Int) > 2147483647
  · exact ⟨0, false, by unfold laws_zzFits5.f; rw [if_pos h], fun h => by cases h⟩
  · obtain ⟨r, hr⟩ := fits_l ss (by omega) ss.length 0 (by omega)
    exact ⟨ss.length + 1, r, by unfold laws_zzFits5.f; rw [if_neg h]; exact hr, fun _ => by omega⟩
/-! ### the short names -/
def M (i : Nat) : ByteArray := ⟨(mini i).toArray⟩
theorem M_wd_all : ∀ i : Fin 100, 0 < (M i.1).size ∧ (M i.1).size ≤ 3 ∧ letter (nb (M i.1) 0) = true ∧ (∀ j : Fin 3, j.1 < (M i.1).size → part (nb (M i.1) j.1) = true) := by decide +kernel
theorem M_ne_all : ∀ i : Fin 100, ∀ k : Fin 100, k.1 < i.1 → mini i.1 ≠ mini k.1 := by decide +kernel
theorem M_wd (i : Nat) (hi : i < 100) : Wd (M i) ∧ (M i).size ≤ 3 := by
  obtain ⟨h1, h2, h3, h4⟩ := M_wd_all ⟨i, hi⟩
  exact ⟨⟨h1, Nat.le_trans h2 (by decide), h3, fun j hj => h4 ⟨j, Nat.lt_of_lt_of_le hj h2⟩ hj⟩, h2⟩
theorem M_ne (i k : Nat) (hi : i < 100) (hk : k < i) : ((M i).toList == (M k).toList) = false := by
  rw [beq_eq_false_iff_ne]
  intro e
  rw [ByteArray.toList_eq, ByteArray.toList_eq] at e
  exact M_ne_all ⟨i, hi⟩ ⟨k, by omega⟩ hk e
theorem nb_app_left (a b : ByteArray) (i : Nat) (h : i < a.size) : nb (a ++ b) i = nb a i := by
  have h2 : i < (a ++ b).size := by rw [ByteArray.size_append]; omega
  rw [nb_in _ _ h2, nb_in _ _ h, ByteArray.getElem_append_left]
theorem nb_app_right (a b : ByteArray) (i : Nat) (h : i < b.size) : nb (a ++ b) (a.size + i) = nb b i := by
  have h2 : a.size + i < (a ++ b).size := by rw [ByteArray.size_append]; omega
  rw [nb_in _ _ h2, nb_in _ _ h, ByteArray.getElem_append_right (by omega)]
  congr 2
  omega
theorem ent_of (b : ByteArray) (hW : Wd b) (hl : b.size ≤ 2000) : Ent (⟨#[97, 46]⟩ ++ b) b := by
  have hs : ((⟨#[97, 46]⟩ : ByteArray) ++ b).size = b.size + 2 := by rw [ByteArray.size_append]; show 2 + b.size = _; omega
  refine ⟨hW, hl, hs, ?_, ?_, fun i h1 h2 => ?_, ?_, ?_⟩
  · rw [nb_app_left _ _ 0 (by decide)]; decide
  · rw [nb_app_left _ _ 1 (by decide)]; decide
  · have e := nb_app_right ⟨#[97, 46]⟩ b (i - 2) (by omega)
    rw [show (⟨#[97, 46]⟩ : ByteArray).size = 2 from rfl, show 2 + (i - 2) = i by omega] at e
    rw [e]
    intro h
    have := hW.all (i - 2) (by omega)
    rw [h] at this
    exact absurd this (by decide)
  · apply ByteArray.ext
    apply Array.toList_inj.1
    simp [ByteArray.data_extract, ByteArray.data_append, A1]
  · apply ByteArray.ext
    apply Array.toList_inj.1
    rw [hs]
    simp [ByteArray.data_extract, ByteArray.data_append]
    exact List.take_of_length_le (Nat.le_refl _)
/-! ### the walk -/
theorem eq_list {a b : ByteArray} : (a.toList == b.toList) = true ↔ a = b := by
  rw [beq_iff_eq, ByteArray.toList_eq, ByteArray.toList_eq]
  constructor
  · intro h
    have h2 : a.data = b.data := Array.toList_inj.1 h
    cases a; cases b; exact congrArg _ h2
  · rintro rfl; rfl
theorem ne_list {a b : ByteArray} (h : a ≠ b) : (a.toList == b.toList) = false := by
  cases e : (a.toList == b.toList)
  · rfl
  · exact absurd (eq_list.1 e) h
theorem reads_x (W : World) : Kd.C Kd.string (W.alloc (.cells #[.string ⟨#[120]⟩] 9)) (some ⟨W.heap.size, 0, none⟩) [(⟨#[120]⟩ : ByteArray)].length [⟨#[120]⟩] := by
  refine ⟨rfl, by simp, fun _ => ⟨_, rfl, fun j p hp => ⟨_, rfl, rfl, fun i u hu => ?_⟩⟩⟩
  have hj : j < 1 := (List.getElem?_eq_some_iff.1 hp).1
  have hi : i < 1 := (List.getElem?_eq_some_iff.1 hu).1
  obtain rfl : j = 0 := by omega
  obtain rfl : i = 0 := by omega
  rw [show (⟨W.heap.size, 0, none⟩ : Addr).add (0 * Kd.string.sz + 0) = ⟨W.heap.size, 0, none⟩ by simp [Addr.add], blk_cell (heap_alloc_new W _) 0]
  cases hp
  cases hu
  rfl
/-- whether a wish was not given yet -/
def Wsh (s : ByteArray) (l : List ByteArray) (b : Bool) : Prop := b = true ↔ s ∉ l
theorem Wsh_false {s : ByteArray} {l : List ByteArray} : Wsh s l false ↔ s ∈ l := by
  unfold Wsh
  constructor
  · intro h
    exact Classical.byContradiction fun hn => by have := h.2 hn; cases this
  · intro h
    exact ⟨fun e => (by cases e), fun hn => absurd h hn⟩
theorem Wsh_true {s : ByteArray} {l : List ByteArray} : Wsh s l true ↔ s ∉ l := by
  unfold Wsh
  exact ⟨fun h => h.1 rfl, fun h => ⟨fun _ => h, fun _ => rfl⟩⟩
set_option maxHeartbeats 40000000 in
set_option maxRecDepth 100000 in
theorem law (ss : List ByteArray) (A : Option Addr) (ca : Nat) (W : World) (hA : Kd.C Kd.string W A ss.length ss) (hca : ss.length ≤ ca) (hT : Tb W) (hM : Mn W) (h1 : 1 < W.heap.size) :
    Calls Tryd.prog 3 #[.slice A ss.length ca] W fun e w' => e = .returned (.bool true) ∧ Below W.heap.size W w' := by
  obtain ⟨kf, r, hf, hlen⟩ := fits5 ss
  have HA := Lib.hid hA
  have HT := Lib.hid hT
  have HM := Lib.hid hM
  have HF := Lib.hid hf
  clear hA hT hM hf
  go_enter Tryd.func3, Tryd.ntmps3
  go_wp2_with (fail)
  refine (laws_zzFits5.calls kf A ca ss r W HA.out hca HF.out).mono ?_
  rintro e w1 ⟨rfl, n, rfl⟩
  have HB1 := Lib.hid (below_drewN (Below.refl W.heap.size W) n)
  clear HF
  generalize W.drewN n = w1 at HB1 ⊢
  cases r
  · go_wp2_with (fail)
    go_ret
    exact ⟨rfl, HB1.out⟩
  have hx0 := hlen rfl
  by_cases l1 : (100 : Int) < ss.length
  · go_wp2_with (fail)
    go_ret
    exact ⟨rfl, HB1.out⟩
  have hn : ss.length ≤ 100 := by omega
  clear hlen hx0
  go_wp2_with (fail)
  go_loopw [4, 22] (fun v4 v22 wr => ∃ x : Nat, v22 = .int .i64 x ∧ x ≤ ss.length ∧ Hid (∀ i, i < x → (ss.getD i ⟨#[]⟩).size ≤ 20) ∧ wr = w1) (fun _ v22 _ => ss.length - (intOf v22).toNat)
  case atStart => exact ⟨0, rfl, Nat.zero_le _, Lib.hid (fun i hi => by omega), rfl⟩
  case round =>
    obtain ⟨x, rfl, hxl, HZ, rfl⟩ := hrel
    by_cases hx : x < ss.length
    · have hx' : (x : Int) < ss.length := by omega
      have x0 : (0 : Int) ≤ x := by omega
      obtain ⟨ad, rfl, c0⟩ := Kd.at_string HA.out (x : Int) x0 hx'
      have hnm : rdOf ByteArray.empty ss (x : Int) = ss.getD x ⟨#[]⟩ := by simp [rdOf, List.getD, hx]
      rw [hnm, Int.toNat_natCast] at c0
      have c1 := (HB1.out.cell (by exact World.block_lt_of_cell? _ _ c0)).trans c0
      have wx : IntKind.i64.wrap ((x : Int) + 1) = ((x + 1 : Nat) : Int) := by rw [IntKind.wrap_i64]; omega
      by_cases hsz : (20 : Int) < (ss.getD x ⟨#[]⟩).size
      · generalize ss.getD x ⟨#[]⟩ = nm at c1 hsz
        clear c0 hnm
        go_wp2_with (fail)
        go_ret
        exact ⟨rfl, HB1.out⟩
      · have HZ2 := Lib.hid (show ∀ i, i < x + 1 → (ss.getD i ⟨#[]⟩).size ≤ 20 from fun i hi => by
          by_cases e : i = x
          · subst e; omega
          · exact HZ.out i (by omega))
        generalize ss.getD x ⟨#[]⟩ = nm at c1 hsz
        clear c0 hnm
        go_wp2_with (fail)
        go_roundw
        case rel => exact ⟨x + 1, by simp [wx], by omega, HZ2, by first | rfl | trivial⟩
        case measure =>
          simp only [intOf]
          omega
    · have hx' : ¬ (x : Int) < ss.length := by omega
      obtain rfl : x = ss.length := by omega
      have hs : ∀ s ∈ ss, s.size ≤ 20 := fun s hs => by
        obtain ⟨i, hi, rfl⟩ := List.getElem_of_mem hs
        have := HZ.out i hi
        simpa [List.getD, hi] using this
      have HS := Lib.hid hs
      have hTM := HT.out.below HB1.out h1
      have hMM := HM.out.below HB1.out h1
      have HEX := Lib.hid (exportNames wr A ca ss (Kd.C_below HA.out HB1.out) hca hn hs hTM hMM (by have := HB1.out.size; omega))
      clear hs hTM hMM HZ
      go_wp2_with (go_at_call 5; refine (HEX.out).mono ?_)
      rintro e w5 ⟨outs, us, r1, r2, rfl, hol, hg, ha, hb, hb5⟩
      obtain ⟨A1', cap1, rfl, hc1, hat1⟩ := ha
      obtain ⟨A2', cap2, rfl, hc2, hat2⟩ := hb
      have HB5 := Lib.hid (HB1.out.trans (hb5.mono HB1.out.size))
      have HG := Lib.hid hg
      have HA1 := Lib.hid hat1
      have HA2 := Lib.hid hat2
      clear hg hat1 hat2 hb5 HEX
      go_wp2_with (fail)
      go_loopw [7, 8, 9, 49] (fun v7 v8 v9 v49 wr => ∃ x : Nat, v49 = .int .i64 x ∧ x ≤ ss.length ∧ Hid (Below w5.heap.size w5 wr)) (fun _ _ _ v49 _ => ss.length - (intOf v49).toNat)
      case atStart => exact ⟨0, rfl, Nat.zero_le _, Lib.hid (Below.refl _ _)⟩
      case round =>
        obtain ⟨x, rfl, hxl, HBR⟩ := hrel
        by_cases hx : x < ss.length
        · have hx1 : (x : Int) < ss.length := by omega
          have x0 : (0 : Int) ≤ x := by omega
          obtain ⟨ad, rfl, c0⟩ := Kd.at_string HA.out (x : Int) x0 hx1
          have hnm : rdOf ByteArray.empty ss (x : Int) = ss.getD x ⟨#[]⟩ := by simp [rdOf, List.getD, hx]
          rw [hnm, Int.toNat_natCast] at c0
          obtain ⟨ga, rfl, hga, ca1⟩ := HA1.out x hx
          obtain ⟨gb, rfl, hgb, cb1⟩ := HA2.out x hx
          have hxo : x < outs.length := by omega
          have ca1 : w5.cell? ⟨ga, x, none⟩ = some (.string outs[x]) := ca1.trans (by simp [cellsB, hxo])
          have cb1 : w5.cell? ⟨gb, x, none⟩ = some (.string (M x)) := cb1.trans (by simp [cellsB, minis, M, hx])
          have c05 := (HB5.out.cell (by exact World.block_lt_of_cell? _ _ c0)).trans c0
          have hlc0 := World.block_lt_of_cell? _ _ c05
          have HKX := Lib.hid (show ∀ W', Below w5.heap.size w5 W' → W'.cell? (ad.add x) = some (.string (ss.getD x ⟨#[]⟩)) ∧ W'.cell? ⟨ga, x, none⟩ = some (.string outs[x]) ∧ W'.cell? ⟨gb, x, none⟩ = some (.string (M x)) from fun W' h =>
            ⟨(h.cell (by exact hlc0)).trans c05, (h.cell (by exact World.block_lt_of_cell? _ _ ca1)).trans ca1, (h.cell (by exact World.block_lt_of_cell? _ _ cb1)).trans cb1⟩)
          have HKK := Lib.hid (show ∀ k, k < x → ∀ W', Below w5.heap.size w5 W' → ∃ o, W'.cell? ⟨ga, k, none⟩ = some (.string o) ∧ W'.cell? ⟨gb, k, none⟩ = some (.string (M k)) ∧ outs.take (k + 1) = outs.take k ++ [o] ∧ o ∈ outs.take x from fun k hk W' h => by
            obtain ⟨ga2, e1, _, q1⟩ := HA1.out k (by omega)
            obtain ⟨gb2, e2, _, q2⟩ := HA2.out k (by omega)
            obtain rfl : ga = ga2 := by simpa using e1
            obtain rfl : gb = gb2 := by simpa using e2
            have hko : k < outs.length := by omega
            have q1 : w5.cell? ⟨ga, k, none⟩ = some (.string outs[k]) := q1.trans (by simp [cellsB, hko])
            have q2 : w5.cell? ⟨gb, k, none⟩ = some (.string (M k)) := q2.trans (by simp [cellsB, minis, M, show k < ss.length by omega])
            exact ⟨outs[k], (h.cell (by exact World.block_lt_of_cell? _ _ q1)).trans q1, (h.cell (by exact World.block_lt_of_cell? _ _ q2)).trans q2, List.take_succ_eq_append_getElem hko, List.mem_take_iff_getElem.2 ⟨k, by omega, rfl⟩⟩)
          have HNEW := Lib.hid (HG.out.new x hxo)
          have HWISH := Lib.hid (HG.out.wish x hxo)
          have HMN := Lib.hid (fun k (hk : k < x) => M_ne x k (by omega) hk)
          have wx : IntKind.i64.wrap ((x : Int) + 1) = ((x + 1 : Nat) : Int) := by rw [IntKind.wrap_i64]; omega
          have hmw := M_wd x (by omega)
          generalize outs[x] = ox at *
          generalize ss.getD x ⟨#[]⟩ = sx at *
          clear c0 c05 ca1 cb1 hnm
          go_wp2_with (fail)
          go_loopw [8, 9] (fun v8 v9 wr => ∃ (k : Nat) (wished : Bool), v9 = .int .i64 k ∧ v8 = .bool wished ∧ k ≤ x ∧ Hid (Wsh sx (outs.take k) wished) ∧ Hid (Below w5.heap.size w5 wr)) (fun _ v9 _ => x - (intOf v9).toNat)
          case atStart => exact ⟨0, true, rfl, rfl, Nat.zero_le _, Lib.hid (by unfold Wsh; simp), HBR⟩
          case round =>
            obtain ⟨k, wished, rfl, rfl, hkx, HW, HBR⟩ := hrel
            by_cases hk : k < x
            · have hk1 : (k : Int) < x := by omega
              have k0 : (0 : Int) ≤ k := by omega
              have hk2 : (k : Int) < ss.length := by omega
              obtain ⟨d1, d2, d3⟩ := HKX.out wr HBR.out
              obtain ⟨o, d4, d5, htk, hmem⟩ := HKK.out k hk wr HBR.out
              have n1 : (ox.toList == o.toList) = false := ne_list (fun e => HNEW.out (by rw [e]; exact hmem))
              have n2 := HMN.out k hk
              have wk : IntKind.i64.wrap ((k : Int) + 1) = ((k + 1 : Nat) : Int) := by rw [IntKind.wrap_i64]; omega
              have HTK := Lib.hid htk
              clear htk hmem
              generalize M x = mx at *
              generalize M k = mk at *
              cases wished
              · have hW2 := Lib.hid (show Wsh sx (outs.take (k + 1)) false from by
                  rw [HTK.out]
                  exact Wsh_false.2 (List.mem_append_left _ (Wsh_false.1 HW.out)))
                clear HW
                go_wp2_with (fail)
                go_quiet (fail)
                have HB6 := Lib.hid (below_drewN HBR.out nq)
                obtain ⟨d1, d2, d3⟩ := HKX.out _ HB6.out
                generalize wr.drewN nq = w6 at HB6 d1 d2 d3 ⊢
                go_wp2_with (fail)
                go_quiet (fail)
                have HB7 := Lib.hid (below_drewN HB6.out nq)
                go_wp2_with (fail)
                go_roundw
                case rel => exact ⟨k + 1, false, by simp [wk], rfl, by omega, hW2, HB7⟩
                case measure =>
                  simp only [intOf]
                  omega
              · by_cases ho : o = sx
                · have hW2 := Lib.hid (show Wsh sx (outs.take (k + 1)) false from by
                    rw [HTK.out, ho]
                    exact Wsh_false.2 (List.mem_append_right _ List.mem_cons_self))
                  have n3 : (o.toList == sx.toList) = true := eq_list.2 ho
                  clear HW ho
                  go_wp2_with (fail)
                  go_quiet (fail)
                  have HB6 := Lib.hid (below_drewN HBR.out nq)
                  obtain ⟨d1', d2', d3'⟩ := HKX.out _ HB6.out
                  have d4' : (wr.drewN nq).cell? ⟨ga, k, none⟩ = some (.string o) := d4
                  generalize wr.drewN nq = w6 at HB6 d1' d2' d3' d4' ⊢
                  go_wp2_with (fail)
                  go_quiet (fail)
                  have HB7 := Lib.hid (below_drewN HB6.out nq)
                  go_wp2_with (fail)
                  go_roundw
                  case rel => exact ⟨k + 1, false, by simp [wk], rfl, by omega, hW2, HB7⟩
                  case measure =>
                    simp only [intOf]
                    omega
                · have hW2 := Lib.hid (show Wsh sx (outs.take (k + 1)) true from by
                    rw [HTK.out]
                    refine Wsh_true.2 fun h => ?_
                    rcases List.mem_append.1 h with h | h
                    · exact Wsh_true.1 HW.out h
                    · exact ho (List.mem_singleton.1 h).symm)
                  have n3 : (o.toList == sx.toList) = false := ne_list ho
                  clear HW ho
                  go_wp2_with (fail)
                  go_quiet (fail)
                  have HB6 := Lib.hid (below_drewN HBR.out nq)
                  obtain ⟨d1', d2', d3'⟩ := HKX.out _ HB6.out
                  have d4' : (wr.drewN nq).cell? ⟨ga, k, none⟩ = some (.string o) := d4
                  generalize wr.drewN nq = w6 at HB6 d1' d2' d3' d4' ⊢
                  go_wp2_with (fail)
                  go_quiet (fail)
                  have HB7 := Lib.hid (below_drewN HB6.out nq)
                  go_wp2_with (fail)
                  go_roundw
                  case rel => exact ⟨k + 1, true, by simp [wk], rfl, by omega, hW2, HB7⟩
                  case measure =>
                    simp only [intOf]
                    omega
            · obtain rfl : k = x := by omega
              have hk1 : ¬ (k : Int) < k := by omega
              obtain ⟨d1, d2, d3⟩ := HKX.out wr HBR.out
              have HEN := Lib.hid (entity wr (⟨#[97, 46]⟩ ++ M k) (M k) (ent_of (M k) hmw.1 (by have := hmw.2; omega)))
              have hmz : ¬ (9223372036854775807 : Nat) < 2 + (M k).size := by have := hmw.2; omega
              have hmz2 : (⟨#[97, 46]⟩ : ByteArray).size = 2 := rfl
              generalize M k = mk at *
              go_wp2_with (fail)
              refine (HEN.out).mono ?_
              rintro e w6 ⟨⟨rr, rfl⟩, hb6⟩
              have HB6 := Lib.hid (HBR.out.trans (hb6.mono HBR.out.size))
              clear hb6 HEN d1 d2 d3
              obtain ⟨d1, d2, d3⟩ := HKX.out w6 HB6.out
              cases wished
              · go_wp2_with (fail)
                go_quiet (fail)
                have HB7 := Lib.hid (below_drewN HB6.out nq)
                go_wp2_with (fail)
                go_roundw
                case rel => exact ⟨k + 1, by simp [wx], by omega, HB7⟩
                case measure =>
                  simp only [intOf]
                  omega
              · have n3 : (ox.toList == sx.toList) = true := eq_list.2 (HWISH.out (Wsh_true.1 HW.out))
                go_wp2_with (fail)
                go_quiet (fail)
                have HB7 := Lib.hid (below_drewN HB6.out nq)
                go_wp2_with (fail)
                go_roundw
                case rel => exact ⟨k + 1, by simp [wx], by omega, HB7⟩
                case measure =>
                  simp only [intOf]
                  omega
        · have hx1 : ¬ (x : Int) < ss.length := by omega
          obtain rfl : x = ss.length := by omega
          have HB8 := Lib.hid (HB5.out.trans (HBR.out.mono HB5.out.size))
          have hb9 := HB8.out.alloc HB8.out.size (.cells #[.string ⟨#[120]⟩] 9)
          have HX := Lib.hid (exportNames _ (some ⟨wr.heap.size, 0, none⟩) 1 [⟨#[120]⟩] (reads_x wr) (Nat.le_refl 1) (by decide) (fun s hs => by simp only [List.mem_singleton] at hs; subst hs; decide) (HT.out.below hb9 h1) (HM.out.below hb9 h1) (by have := hb9.size; omega))
          have HB9 := Lib.hid hb9
          clear hb9
          go_wp2_with (go_at_call 5; refine (HX.out).mono ?_)
          rintro e w9 ⟨outs2, us2, q1, q2, rfl, _, _, ha9, _, hb10⟩
          obtain ⟨A9, cap9, rfl, _, _⟩ := ha9
          have HB10 := Lib.hid (HB9.out.trans (hb10.mono HB9.out.size))
          clear hb10 HX
          go_wp2_with (fail)
          go_ret
          exact ⟨rfl, HB10.out⟩
end Go.Proofs.YtgflhmihmdflcaaDoor.fnExportNames
