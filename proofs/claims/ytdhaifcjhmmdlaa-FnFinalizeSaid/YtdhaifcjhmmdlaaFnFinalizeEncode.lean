/-
  FnFinalize: encodeVLQ writes a number, and ComesBefore.
  Conditions: numbers of 33 bits.
-/
import Derived.Test.YtdhaifcjhmmdlaaFnFinalizeDecode
import Derived.OwnWalk
import Derived.OneCell
namespace Go.Proofs.Ytdhaifcjhmmdlaa.fnFinalize
open Go.RowKit Go.Proofs.YtdhaifcjhmmdlaaW.PrintWords Go.Proofs.YtdhaifcjhmmdlaaW.PrintLast Go.Proofs.YtdhaifcjhmmdlaaW.PrintMore
set_option linter.unusedVariables false
set_option linter.unusedSimpArgs false

set_option maxHeartbeats 8000000 in
set_option maxRecDepth 100000 in
theorem comesBefore (a b c d : Int) (W : World) :
    Calls Try.prog 22 #[.agg #[.int .i64 a, .int .i64 b], .agg #[.int .i64 c, .int .i64 d]] W fun e w' => e = .returned (.bool (bef ⟨a, b, 0, 0⟩ c d)) ∧ w' = (W.alloc (.cells #[.int .i64 a, .int .i64 b] 44)).alloc (.cells #[.int .i64 c, .int .i64 d] 44) := by
  go_enter Try.func22, Try.ntmps22
  go_wp2_with (fail)
  all_goals
    go_ret
    refine ⟨congrArg (fun x => Ending.returned (.bool x)) ?_, ?_⟩
    · have e : bef ⟨a, b, 0, 0⟩ c d = decide (a < c ∨ a = c ∧ b < d) := rfl
      rw [e]
      first
        | (apply decide_eq_decide.2; omega)
        | (symm; apply decide_eq_true; omega)
        | (symm; apply decide_eq_false; omega)
    · simp_all
theorem news_alloc (w : World) (cs : List Value) (t : TypeId) (j : Nat) (u : Value) (h : cs[j]? = some u) : (w.alloc (.cells cs.toArray t)).cell? ((⟨w.heap.size, 0, none⟩ : Addr).add j) = some u := by
  have e : (⟨w.heap.size, 0, none⟩ : Addr).add j = ⟨w.heap.size, j, none⟩ := by unfold Addr.add; split <;> simp_all
  rw [e, blk_cell (heap_alloc_new w _) j]
  simpa using h
theorem ds_size : DS.size = 64 := rfl
theorem ds_get : ∀ d : Fin 64, DS[d.1]'(by rw [ds_size]; exact d.2) = dig d.1 := by decide +kernel
theorem ds_getv (z : Nat) (h : z < DS.size) : Value.int .u8 ((DS[z].toNat : Nat) : Int) = bval (dig z) := by
  have := ds_get ⟨z, h⟩
  unfold bval
  rw [← this]
theorem info5 : (Try.prog.info? 5).map (fun i => (i.zero, i.size, i.bytes)) = some (some (.int .u8 0), 1, 1) := by kernel_rfl
theorem own_base {W : World} {B e sz n : Nat} {v : Value} {xs : List Value} (h : W.ownsRow B e sz v n xs) : ∀ k, v.ownBlock = some k → B ≤ k := fun k hk => (h.lt k hk).1
theorem own_ne {W : World} {B e sz n : Nat} {v : Value} {xs : List Value} (h : W.ownsRow B e sz v n xs) {k : Nat} (hk : k < B) : some k ≠ v.ownBlock := fun e => by have := own_base h k e.symm; omega
set_option maxHeartbeats 8000000 in
set_option maxRecDepth 100000 in
theorem encode (W : World) (n : Int) (h0 : -4294967296 < n) (h1 : n < 4294967296) :
    Calls Try.prog 23 #[.slice none 0 0, .int .i64 n] W fun e w' => ∃ v, e = .returned v ∧ w'.ownsRow W.heap.size 5 1 v (vlq n).length ((vlq n).map bval) ∧ Below W.heap.size W w' := by
  obtain ⟨i0, hi, hz0, hz1, hz2⟩ := info_parts info5
  have hz := zig_lt n 4294967296 (by omega) (by omega)
  go_enter Try.func23, Try.ntmps23
  go_upto_if 9 with (fail)
  go_cut [5] (fun v5 wc => v5 = .int .i64 (zig n : Int) ∧ wc = W)
  case first =>
    by_cases h : n < 0
    · have e0 := zig_neg h
      have e1 : wrap64 (-n) = -n := by unfold wrap64; omega
      have e2 : wrap64 (-n * 2) = -n * 2 := by unfold wrap64; omega
      have e3 := or1 (-n) (by omega) (by omega)
      have hb : decide (n < 0) = true := decide_eq_true h
      have HH := Lib.hid h
      have HE := Lib.hid e0
      clear h e0 hz
      rw [hb]
      go_wp2_with (fail)
      go_meet
      case rel => exact ⟨by rw [HE.out], rfl⟩
    · have e0 := zig_pos h
      have e2 : wrap64 (n * 2) = n * 2 := by unfold wrap64; omega
      have hb : decide (n < 0) = false := decide_eq_false h
      have HH := Lib.hid h
      have HE := Lib.hid e0
      clear h e0 hz
      rw [hb]
      go_wp2_with (fail)
      go_meet
      case rel => exact ⟨by rw [HE.out], rfl⟩
  case rest =>
    obtain ⟨rfl, rfl⟩ := hcut
    generalize hZ : zig n = z at hz ⊢
    by_cases h32 : z < 32
    · have e1 : (z : Int) / 32 = 0 := by omega
      have e2 : Go.bits .and .i64 (z : Int) 31 = (z : Int) := by rw [and31 _ (by omega) (by omega)]; omega
      have p0 : (0 : Int) ≤ (z : Int) := by omega
      have p1 : (z : Int) < 64 := by omega
      have hzs : z < DS.size := Nat.lt_trans h32 (by decide)
      go_wp2_with (at_builtin; refine wpList_append_own _ rfl (.tmp 21) (.tmp 24) 47 rfl wc.heap.size 5 i0 (.int .u8 0) 1 1 Try.underlying47 hi hz0 hz1 hz2 rfl (by decide) _ 0 [] rfl (World.ownsRow_nil _ _ _ _) ⟨wc.heap.size, 0, none⟩ 1 1 [.int .u8 ((DS[z].toNat : Nat) : Int)] rfl rfl ?c1 ?c2 ?c3 ?c4 ?c5 ?_)
      case c1 => first | exact fun j u h => news_alloc _ _ _ j u h | exact fun j u h => h | (intro j u h; simpa using h)
      case c2 => first | rfl | (intro u hu; simp only [List.mem_cons, List.not_mem_nil, or_false] at hu; rcases hu with rfl; rfl)
      case c3 => unfold maxLen; omega
      case c4 => omega
      case c5 => simp
      intro v' w2 hown3 hgr _
      have hb2 : Below wc.heap.size wc w2 := ((Below.refl _ _).alloc (Nat.le_refl _) _).grown hgr (by simp) (fun k hk => by simp [Value.ownBlock] at hk)
      have hv : vlq n = [dig z] := by unfold vlq; rw [hZ]; exact vl_small h32
      rw [ds_getv z hzs] at hown3
      have HO4 := Lib.hid hown3
      have HB4 := Lib.hid hb2
      clear hown3 hgr hb2
      go_wp2_with (fail)
      go_ret
      rw [hv]
      exact ⟨_, rfl, HO4.out, HB4.out⟩
    · have e1 : ((z : Int) / 32 == 0) = false := beq_eq_false_iff_ne.mpr (by omega)
      have HZ := Lib.hid hZ
      clear hZ
      go_wp2_with (fail)
      go_loopw [0, 5] (fun v0 v5 wr => ∃ (out : List UInt8) (x : Nat), v5 = .int .i64 (x : Int) ∧ Hid (wr.ownsRow wc.heap.size 5 1 v0 out.length (out.map bval)) ∧ Hid (Below wc.heap.size wc wr) ∧ Hid (out ++ vl x = vlq n) ∧ out.length + x ≤ 17179869184) (fun _ v5 _ => (intOf v5).toNat)
      case atStart => exact ⟨[], z, rfl, Lib.hid (World.ownsRow_nil _ _ _ _), Lib.hid (Below.refl _ _), Lib.hid (by rw [← HZ.out]; rfl), by simp; omega⟩
      case round =>
        obtain ⟨out, x, rfl, HO, HB, HV, hle⟩ := hrel
        have ha := and31 (x : Int) (by omega) (by omega)
        by_cases h32 : x < 32
        · have d1 : (x : Int) / 32 = 0 := by omega
          have d2 : Go.bits .and .i64 (x : Int) 31 = (x : Int) := by omega
          have p0 : (0 : Int) ≤ (x : Int) := by omega
          have p1 : (x : Int) < 64 := by omega
          have hds : x < DS.size := Nat.lt_trans h32 (by decide)
          have HX := Lib.hid h32
          clear ha h32
          go_wp2_with (at_builtin; refine wpList_append_own _ rfl (.tmp 35) (.tmp 38) 47 rfl wc.heap.size 5 i0 (.int .u8 0) 1 1 Try.underlying47 hi hz0 hz1 hz2 rfl (by decide) _ out.length (out.map bval) rfl (HO.out.alloc _) ⟨wr.heap.size, 0, none⟩ 1 1 [.int .u8 ((DS[x].toNat : Nat) : Int)] rfl rfl ?c1 ?c2 ?c3 ?c4 ?c5 ?_)
          case c1 => first | exact fun j u h => news_alloc _ _ _ j u h | exact fun j u h => h | (intro j u h; simpa using h)
          case c2 => first | rfl | (intro u hu; simp only [List.mem_cons, List.not_mem_nil, or_false] at hu; rcases hu with rfl; rfl)
          case c3 => unfold maxLen; omega
          case c4 => omega
          case c5 => have := HB.out.size; simp; omega
          intro v' w2 hown3 hgr _
          have hb2 : Below wc.heap.size wc w2 := (HB.out.alloc HB.out.size _).grown hgr (by have := HB.out.size; simp; omega) (own_base HO.out)
          rw [ds_getv x hds] at hown3
          have HO4 := Lib.hid (show w2.ownsRow wc.heap.size 5 1 v' (out ++ [dig x]).length ((out ++ [dig x]).map bval) by rw [List.map_append, List.length_append]; exact hown3)
          have HB4 := Lib.hid hb2
          clear hown3 hgr hb2
          go_wp2_with (fail)
          go_ret
          have hv := HV.out
          rw [vl_small HX.out] at hv
          rw [← hv]
          exact ⟨_, rfl, HO4.out, HB4.out⟩
        · have d1 : ((x : Int) / 32 == 0) = false := beq_eq_false_iff_ne.mpr (by omega)
          have d1b : ((x : Int) / 32 != 0) = true := bne_iff_ne.mpr (by omega)
          have d2 : Go.bits .and .i64 (x : Int) 31 = ((x % 32 : Nat) : Int) := by omega
          have d3 := or32 (x % 32) (by omega)
          have d4 : (x : Int) / 32 = ((x / 32 : Nat) : Int) := by omega
          have hds : x % 32 + 32 < DS.size := by rw [ds_size]; omega
          have HD := Lib.hid (rfl : x % 32 + 32 = x % 32 + 32)
          generalize hd : x % 32 + 32 = d at d3 hds
          have HDD := Lib.hid hd
          generalize hm : x % 32 = m at d2 d3
          generalize hy : x / 32 = y at d4
          rw [d4] at d1 d1b
          have p0 : (0 : Int) ≤ (d : Int) := by omega
          have p1 : (d : Int) < 64 := by omega
          have HX := Lib.hid h32
          have HY := Lib.hid hy
          clear ha h32 hd hm hy
          go_wp2_with (at_builtin; refine wpList_append_own _ rfl (.tmp 35) (.tmp 38) 47 rfl wc.heap.size 5 i0 (.int .u8 0) 1 1 Try.underlying47 hi hz0 hz1 hz2 rfl (by decide) _ out.length (out.map bval) rfl (HO.out.alloc _) ⟨wr.heap.size, 0, none⟩ 1 1 [.int .u8 ((DS[d].toNat : Nat) : Int)] rfl rfl ?c1 ?c2 ?c3 ?c4 ?c5 ?_)
          case c1 => first | exact fun j u h => news_alloc _ _ _ j u h | exact fun j u h => h | (intro j u h; simpa using h)
          case c2 => first | rfl | (intro u hu; simp only [List.mem_cons, List.not_mem_nil, or_false] at hu; rcases hu with rfl; rfl)
          case c3 => unfold maxLen; omega
          case c4 => omega
          case c5 => have := HB.out.size; simp; omega
          intro v' w2 hown3 hgr _
          have hb2 : Below wc.heap.size wc w2 := (HB.out.alloc HB.out.size _).grown hgr (by have := HB.out.size; simp; omega) (own_base HO.out)
          rw [ds_getv d hds] at hown3
          have HO4 := Lib.hid (show w2.ownsRow wc.heap.size 5 1 v' (out ++ [dig d]).length ((out ++ [dig d]).map bval) by rw [List.map_append, List.length_append]; exact hown3)
          have HB4 := Lib.hid hb2
          clear hown3 hgr hb2
          go_wp2_with (fail)
          go_roundw
          case rel =>
            refine ⟨out ++ [dig d], y, rfl, HO4, HB4, Lib.hid ?_, ?_⟩
            · rw [← HV.out, vl_big HX.out, HDD.out, HY.out, List.append_assoc]
              rfl
            · have a1 := HY.out; have a2 := HX.out
              simp only [List.length_append, List.length_cons, List.length_nil]
              omega
          case measure =>
            have a1 := HY.out; have a2 := HX.out
            simp only [intOf]
            omega

