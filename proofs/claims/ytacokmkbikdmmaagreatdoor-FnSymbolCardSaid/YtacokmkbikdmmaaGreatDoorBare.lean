/-
  More small questions: meanBare, keyed, rawPlain.
  Conditions: none.
-/
import Derived.Test.YtacokmkbikdmmaaGreatDoorSmall
import Derived.Laws.BitsAllLaws
namespace Go.Proofs.YtacokmkbikdmmaaGreatDoor.trees
open Go Go.RowKit
set_option linter.unusedVariables false
set_option linter.unusedSimpArgs false

attribute [local go_sem] run_store_float
/-- so many Kids, and nothing else -/
structure BareX (x : X) (k : Nat) : Prop where
  kn : x.kn = k
  op : x.op = 0
  ref : x.ref = 0
  chain : x.chain = 0
  flags : x.flags = 0
  num : x.num = 0
  sn : x.sn = 0
  pn : x.pn = 0
  qn : x.qn = 0
  fn : x.fn = 0
  cn : x.cn = 0
  text : x.text.toList.isEmpty = true
set_option maxHeartbeats 4000000 in
set_option maxRecDepth 100000 in
theorem meanBare (x : X) (kids : Nat) (W : World) (hs : Short x) : Calls Tryz.prog 54 #[.agg #[.int .i64 x.kind, .int .i64 x.op, .int .i64 x.ref, .int .i64 x.chain, .int .i64 x.flags, .float .f64 x.num, .slice x.sa x.sn x.sc, .string x.text, .slice x.ka x.kn x.kc, .slice x.pa x.pn x.pc, .slice x.qa x.qn x.qc, .slice x.fa x.fn x.fc, .slice x.ca x.cn x.cc], .int .i64 kids] W (fun e w' => Pb W (BareX x kids) e w') := by
  have HS := Lib.hid hs
  clear hs
  go_enter Tryz.func54, Tryz.ntmps54
  go_upto_region 1 with (fail)
  have hD := heap_alloc_new W (.cells #[.int .i64 x.kind, .int .i64 x.op, .int .i64 x.ref, .int .i64 x.chain, .int .i64 x.flags, .float .f64 x.num, .slice x.sa x.sn x.sc, .string x.text, .slice x.ka x.kn x.kc, .slice x.pa x.pn x.pc, .slice x.qa x.qn x.qc, .slice x.fa x.fn x.fc, .slice x.ca x.cn x.cc] 30)
  have hDb := (Below.refl W.heap.size W).alloc (Nat.le_refl _) (.cells #[.int .i64 x.kind, .int .i64 x.op, .int .i64 x.ref, .int .i64 x.chain, .int .i64 x.flags, .float .f64 x.num, .slice x.sa x.sn x.sc, .string x.text, .slice x.ka x.kn x.kc, .slice x.pa x.pn x.pc, .slice x.qa x.qn x.qc, .slice x.fa x.fn x.fc, .slice x.ca x.cn x.cc] 30)
  have hDs : (W.alloc (.cells #[.int .i64 x.kind, .int .i64 x.op, .int .i64 x.ref, .int .i64 x.chain, .int .i64 x.flags, .float .f64 x.num, .slice x.sa x.sn x.sc, .string x.text, .slice x.ka x.kn x.kc, .slice x.pa x.pn x.pc, .slice x.qa x.qn x.qc, .slice x.fa x.fn x.fc, .slice x.ca x.cn x.cc] 30)).heap.size = W.heap.size + 1 := by simp
  generalize W.alloc (.cells #[.int .i64 x.kind, .int .i64 x.op, .int .i64 x.ref, .int .i64 x.chain, .int .i64 x.flags, .float .f64 x.num, .slice x.sa x.sn x.sc, .string x.text, .slice x.ka x.kn x.kc, .slice x.pa x.pn x.pc, .slice x.qa x.qn x.qc, .slice x.fa x.fn x.fc, .slice x.ca x.cn x.cc] 30) = w1 at hD hDb hDs ⊢
  have d1 : w1.cell? ⟨W.heap.size, 1, none⟩ = some (.int .i64 x.op) := blk_cell hD 1
  have d2 : w1.cell? ⟨W.heap.size, 2, none⟩ = some (.int .i64 x.ref) := blk_cell hD 2
  have d3 : w1.cell? ⟨W.heap.size, 3, none⟩ = some (.int .i64 x.chain) := blk_cell hD 3
  have d4 : w1.cell? ⟨W.heap.size, 4, none⟩ = some (.int .i64 x.flags) := blk_cell hD 4
  have d5 : w1.cell? ⟨W.heap.size, 5, none⟩ = some (.float .f64 x.num) := blk_cell hD 5
  have d6 : w1.cell? ⟨W.heap.size, 6, none⟩ = some (.slice x.sa x.sn x.sc) := blk_cell hD 6
  have d7 : w1.cell? ⟨W.heap.size, 7, none⟩ = some (.string x.text) := blk_cell hD 7
  have d8 : w1.cell? ⟨W.heap.size, 8, none⟩ = some (.slice x.ka x.kn x.kc) := blk_cell hD 8
  have d9 : w1.cell? ⟨W.heap.size, 9, none⟩ = some (.slice x.pa x.pn x.pc) := blk_cell hD 9
  have d10 : w1.cell? ⟨W.heap.size, 10, none⟩ = some (.slice x.qa x.qn x.qc) := blk_cell hD 10
  have d11 : w1.cell? ⟨W.heap.size, 11, none⟩ = some (.slice x.fa x.fn x.fc) := blk_cell hD 11
  have d12 : w1.cell? ⟨W.heap.size, 12, none⟩ = some (.slice x.ca x.cn x.cc) := blk_cell hD 12
  have HD := Lib.hid (⟨hD, hDb, hDs⟩ : _ ∧ _ ∧ _)
  clear hD hDb hDs
  have hb := HD.out.2.1
  by_cases c0 : x.kn = kids
  · have e0 : (x.kn : Int) = (kids : Int) := by omega
    have C0_ := Lib.hid c0
    clear c0
    by_cases c1 : bits .or .i64 (bits .or .i64 (bits .or .i64 x.op x.ref) x.chain) x.flags = 0
    · have CB := Lib.hid c1
      have q := HS.out.sz
      have h1 := or_i64 _ _ (bits_i64 _ _ _) q.flags c1
      have h2 := or_i64 _ _ (bits_i64 _ _ _) q.chain h1.1
      have h3 := or_i64 _ _ q.op q.ref h2.1
      have CZ := Lib.hid (⟨h3.1, h3.2, h2.2, h1.2⟩ : x.op = 0 ∧ x.ref = 0 ∧ x.chain = 0 ∧ x.flags = 0)
      clear q h1 h2 h3
      go_wp2_with (fail)
      refine (plainZero _ _).mono ?_
      rintro e w3 ⟨r, rfl, rfl, hr⟩
      cases r with
      | false =>
        clear hr
        go_wp2_with (fail)
        go_ret
        exact ⟨false, rfl, fun h => by simp at h, hb⟩
      | true =>
        have HN := Lib.hid (hr.1 (by first | rfl | trivial))
        clear hr c1
        obtain ⟨⟨f1, f2, _, _, _, _⟩, f3, _, _, f4, f5⟩ := HS.out
        have s1 : wrap64 ((x.sn : Int) + (x.pn : Int)) = (x.sn : Int) + (x.pn : Int) := by unfold wrap64; omega
        have s2 : wrap64 ((x.sn : Int) + (x.pn : Int) + (x.qn : Int)) = (x.sn : Int) + (x.pn : Int) + (x.qn : Int) := by clear s1; unfold wrap64; omega
        have s3 : wrap64 ((x.sn : Int) + (x.pn : Int) + (x.qn : Int) + (x.fn : Int)) = (x.sn : Int) + (x.pn : Int) + (x.qn : Int) + (x.fn : Int) := by clear s1 s2; unfold wrap64; omega
        have s4 : wrap64 ((x.sn : Int) + (x.pn : Int) + (x.qn : Int) + (x.fn : Int) + (x.cn : Int)) = (x.sn : Int) + (x.pn : Int) + (x.qn : Int) + (x.fn : Int) + (x.cn : Int) := by clear s1 s2 s3; unfold wrap64; omega
        have HS4 := Lib.hid (⟨s1, s2, s3, s4⟩ : _ ∧ _ ∧ _ ∧ _)
        clear s1 s2 s3 s4
        by_cases c1 : x.sn = 0 ∧ x.pn = 0 ∧ x.qn = 0 ∧ x.fn = 0 ∧ x.cn = 0
        · have HC := Lib.hid c1
          rw [HC.out.1] at d6
          rw [HC.out.2.1] at d9
          rw [HC.out.2.2.1] at d10
          rw [HC.out.2.2.2.1] at d11
          rw [HC.out.2.2.2.2] at d12
          clear c1 f1 f2 f3 f4 f5
          cases ct : x.text.toList.isEmpty with
          | false =>
            go_wp2_with (fail)
            go_ret
            exact ⟨false, rfl, fun h => by simp at h, hb⟩
          | true =>
            have CT := Lib.hid ct
            go_wp2_with (fail)
            go_ret
            exact ⟨_, rfl, fun _ => ⟨C0_.out, CZ.out.1, CZ.out.2.1, CZ.out.2.2.1, CZ.out.2.2.2, HN.out, HC.out.1, HC.out.2.1, HC.out.2.2.1, HC.out.2.2.2.1, HC.out.2.2.2.2, CT.out⟩, hb⟩
        · have c2 : ¬ ((x.sn : Int) + (x.pn : Int) + (x.qn : Int) + (x.fn : Int) + (x.cn : Int) = 0) := by omega
          clear c1 f1 f2 f3 f4 f5
          obtain ⟨s1, s2, s3, s4⟩ := HS4.out
          go_wp2_with (fail)
          go_ret
          exact ⟨false, rfl, fun h => by simp at h, hb⟩
    · go_wp2_with (fail)
      go_ret
      exact ⟨false, rfl, fun h => by simp at h, hb⟩
  · have e0 : ¬ ((x.kn : Int) = (kids : Int)) := by omega
    clear c0
    go_wp2_with (fail)
    go_ret
    exact ⟨false, rfl, fun h => by simp at h, hb⟩
set_option maxHeartbeats 4000000 in
set_option maxRecDepth 100000 in
theorem keyed (pk pf : Int) (ka1 : Option Addr) (kn1 kc1 : Nat) (va1 : Option Addr) (vn1 vc1 : Nat) (N : Nat) (W W1 : World) (hk : rows W N 13 ka1 kn1 kc1 (fun cs => ∃ y : X, cs = y.cells)) (h0 : Below N W W1) (hN : N ≤ W.heap.size) (h1 : kn1 = 1) : Calls Tryz.prog 29 #[.agg #[.int .i64 pk, .int .i64 pf, .slice ka1 kn1 kc1, .slice va1 vn1 vc1]] W1 (fun e w' => Pb W1 (bits BinOp.andNot IntKind.i64 pf 9 = 0) e w') := by
  subst h1
  obtain ⟨g, o, cs, rfl, hg, _, ⟨y, rfl⟩, hc, _⟩ := hk.at (show 0 < 1 from Nat.one_pos)
  clear hk
  go_enter Tryz.func29, Tryz.ntmps29
  go_upto_region 1 with (fail)
  have hD := heap_alloc_new W1 (.cells #[.int .i64 pk, .int .i64 pf, .slice (some ⟨g, o, none⟩) 1 kc1, .slice va1 vn1 vc1] 53)
  have hDb := (Below.refl W1.heap.size W1).alloc (Nat.le_refl _) (.cells #[.int .i64 pk, .int .i64 pf, .slice (some ⟨g, o, none⟩) 1 kc1, .slice va1 vn1 vc1] 53)
  generalize W1.alloc (.cells #[.int .i64 pk, .int .i64 pf, .slice (some ⟨g, o, none⟩) 1 kc1, .slice va1 vn1 vc1] 53) = w1 at hD hDb ⊢
  have d1 : w1.cell? ⟨W1.heap.size, 1, none⟩ = some (.int .i64 pf) := blk_cell hD 1
  have d2 : w1.cell? ⟨W1.heap.size, 2, none⟩ = some (.slice (some ⟨g, o, none⟩) 1 kc1) := blk_cell hD 2
  clear hD
  have hbi := bl h0 hN hDb
  have HBI := Lib.hid hbi
  clear hbi h0
  have k0 := inp HBI.out hg (hc 0 _ rfl)
  rw [show o + 0 * 13 + 0 = o by omega] at k0
  have k1 := inp HBI.out hg (hc 1 _ rfl)
  rw [show o + 0 * 13 + 1 = o + 1 by omega] at k1
  have k2 := inp HBI.out hg (hc 2 _ rfl)
  rw [show o + 0 * 13 + 2 = o + 2 by omega] at k2
  have k3 := inp HBI.out hg (hc 3 _ rfl)
  rw [show o + 0 * 13 + 3 = o + 3 by omega] at k3
  have k4 := inp HBI.out hg (hc 4 _ rfl)
  rw [show o + 0 * 13 + 4 = o + 4 by omega] at k4
  have k5 := inp HBI.out hg (hc 5 _ rfl)
  rw [show o + 0 * 13 + 5 = o + 5 by omega] at k5
  have k6 := inp HBI.out hg (hc 6 _ rfl)
  rw [show o + 0 * 13 + 6 = o + 6 by omega] at k6
  have k7 := inp HBI.out hg (hc 7 _ rfl)
  rw [show o + 0 * 13 + 7 = o + 7 by omega] at k7
  have k8 := inp HBI.out hg (hc 8 _ rfl)
  rw [show o + 0 * 13 + 8 = o + 8 by omega] at k8
  have k9 := inp HBI.out hg (hc 9 _ rfl)
  rw [show o + 0 * 13 + 9 = o + 9 by omega] at k9
  have k10 := inp HBI.out hg (hc 10 _ rfl)
  rw [show o + 0 * 13 + 10 = o + 10 by omega] at k10
  have k11 := inp HBI.out hg (hc 11 _ rfl)
  rw [show o + 0 * 13 + 11 = o + 11 by omega] at k11
  have k12 := inp HBI.out hg (hc 12 _ rfl)
  rw [show o + 0 * 13 + 12 = o + 12 by omega] at k12
  clear hc
  by_cases cz : bits BinOp.andNot IntKind.i64 pf 9 = 0
  · have e0 : (bits BinOp.andNot IntKind.i64 pf 9 != 0) = false := by simp [cz]
    have CZ := Lib.hid cz
    clear cz
    go_upto_region 4 with (fail)
    have hP := heap_alloc_new w1 (.cells #[.int .i64 y.kind, .int .i64 y.op, .int .i64 y.ref, .int .i64 y.chain, .int .i64 y.flags, .float .f64 y.num, .slice y.sa y.sn y.sc, .string y.text, .slice y.ka y.kn y.kc, .slice y.pa y.pn y.pc, .slice y.qa y.qn y.qc, .slice y.fa y.fn y.fc, .slice y.ca y.cn y.cc] 30)
    have hPb := (Below.refl w1.heap.size w1).alloc (Nat.le_refl _) (.cells #[.int .i64 y.kind, .int .i64 y.op, .int .i64 y.ref, .int .i64 y.chain, .int .i64 y.flags, .float .f64 y.num, .slice y.sa y.sn y.sc, .string y.text, .slice y.ka y.kn y.kc, .slice y.pa y.pn y.pc, .slice y.qa y.qn y.qc, .slice y.fa y.fn y.fc, .slice y.ca y.cn y.cc] 30)
    replace d1 := (hPb.cell (World.block_lt_of_cell? _ _ d1)).trans d1
    generalize w1.alloc (.cells #[.int .i64 y.kind, .int .i64 y.op, .int .i64 y.ref, .int .i64 y.chain, .int .i64 y.flags, .float .f64 y.num, .slice y.sa y.sn y.sc, .string y.text, .slice y.ka y.kn y.kc, .slice y.pa y.pn y.pc, .slice y.qa y.qn y.qc, .slice y.fa y.fn y.fc, .slice y.ca y.cn y.cc] 30) = w2 at hP hPb d1 ⊢
    have p0 : w2.cell? ⟨w1.heap.size, 0, none⟩ = some (.int .i64 y.kind) := blk_cell hP 0
    have p4 : w2.cell? ⟨w1.heap.size, 4, none⟩ = some (.int .i64 y.flags) := blk_cell hP 4
    have hb2 := bl2 hDb hPb
    clear hP hPb k0 k1 k2 k3 k4 k5 k6 k7 k8 k9 k10 k11 k12
    go_wp2_with (fail)
    all_goals
      go_ret
      exact ⟨_, rfl, fun _ => CZ.out, hb2⟩
  · have e0 : (bits BinOp.andNot IntKind.i64 pf 9 != 0) = true := by simp [cz]
    clear cz
    go_wp2_with (fail)
    go_ret
    exact ⟨false, rfl, fun h => by simp at h, hDb⟩
set_option maxHeartbeats 4000000 in
set_option maxRecDepth 100000 in
theorem rawPlain (x : X) (N : Nat) (W W1 : World) (R : List Value → Prop) (hq : rows W N 3 x.qa x.qn x.qc R) (hR : ∀ cs, R cs → ∃ (a b : Value) (t : ByteArray), cs = [a, b, .string t]) (h0 : Below N W W1) (hN : N ≤ W.heap.size) : Calls Tryz.prog 52 #[.agg #[.int .i64 x.kind, .int .i64 x.op, .int .i64 x.ref, .int .i64 x.chain, .int .i64 x.flags, .float .f64 x.num, .slice x.sa x.sn x.sc, .string x.text, .slice x.ka x.kn x.kc, .slice x.pa x.pn x.pc, .slice x.qa x.qn x.qc, .slice x.fa x.fn x.fc, .slice x.ca x.cn x.cc]] W1 (fun e w' => Pb W1 True e w') := by
  have lq := hq.lt
  have HH := Lib.hid (⟨hq, hR, h0⟩ : _ ∧ _ ∧ _)
  clear hq hR h0
  go_enter Tryz.func52, Tryz.ntmps52
  go_upto_region 1 with (fail)
  have hD := heap_alloc_new W1 (.cells #[.int .i64 x.kind, .int .i64 x.op, .int .i64 x.ref, .int .i64 x.chain, .int .i64 x.flags, .float .f64 x.num, .slice x.sa x.sn x.sc, .string x.text, .slice x.ka x.kn x.kc, .slice x.pa x.pn x.pc, .slice x.qa x.qn x.qc, .slice x.fa x.fn x.fc, .slice x.ca x.cn x.cc] 30)
  have hDb := (Below.refl W1.heap.size W1).alloc (Nat.le_refl _) (.cells #[.int .i64 x.kind, .int .i64 x.op, .int .i64 x.ref, .int .i64 x.chain, .int .i64 x.flags, .float .f64 x.num, .slice x.sa x.sn x.sc, .string x.text, .slice x.ka x.kn x.kc, .slice x.pa x.pn x.pc, .slice x.qa x.qn x.qc, .slice x.fa x.fn x.fc, .slice x.ca x.cn x.cc] 30)
  have hDs : (W1.alloc (.cells #[.int .i64 x.kind, .int .i64 x.op, .int .i64 x.ref, .int .i64 x.chain, .int .i64 x.flags, .float .f64 x.num, .slice x.sa x.sn x.sc, .string x.text, .slice x.ka x.kn x.kc, .slice x.pa x.pn x.pc, .slice x.qa x.qn x.qc, .slice x.fa x.fn x.fc, .slice x.ca x.cn x.cc] 30)).heap.size = W1.heap.size + 1 := by simp
  generalize W1.alloc (.cells #[.int .i64 x.kind, .int .i64 x.op, .int .i64 x.ref, .int .i64 x.chain, .int .i64 x.flags, .float .f64 x.num, .slice x.sa x.sn x.sc, .string x.text, .slice x.ka x.kn x.kc, .slice x.pa x.pn x.pc, .slice x.qa x.qn x.qc, .slice x.fa x.fn x.fc, .slice x.ca x.cn x.cc] 30) = w1 at hD hDb hDs ⊢
  have HD := Lib.hid (⟨hD, hDb, hDs⟩ : _ ∧ _ ∧ _)
  clear hD hDb hDs
  go_wp2_with (fail)
  go_loopw [3] (fun v3 wq => ∃ i : Nat, v3 = .int .i64 (i : Int) ∧ i ≤ x.qn ∧ wq = w1) (fun v3 _ => x.qn - (intOf v3).toNat)
  case atStart => exact ⟨0, rfl, Nat.zero_le _, rfl⟩
  case round =>
    obtain ⟨i, rfl, hi, hw⟩ := hrel
    have hw := hw.symm
    subst hw
    have d10 : w1.cell? ⟨W1.heap.size, 10, none⟩ = some (.slice x.qa x.qn x.qc) := blk_cell (((Below.refl w1.heap.size w1).block _ (blk_lt HD.out.1)).trans HD.out.1) 10
    by_cases hlt : i < x.qn
    · have x0 : (0 : Int) ≤ (i : Int) := by omega
      have x1 : (i : Int) < (x.qn : Int) := by omega
      have wi : wrap64 ((i : Int) + 1) = ((i + 1 : Nat) : Int) := by unfold wrap64; omega
      obtain ⟨g, o, cs, eA, hg, _, hE, hc, _⟩ := HH.out.1.at hlt
      obtain ⟨a, b, tt, rfl⟩ := HH.out.2.1 _ hE
      have k2 := inp (bl HH.out.2.2 hN HD.out.2.1) hg (hc 2 _ rfl)
      rw [eA] at d10
      have HI := Lib.hid (⟨hlt, wi⟩ : _ ∧ _)
      clear hc hE eA hlt hi
      cases ct : (!tt.toList.isEmpty) with
      | false =>
        go_wp2_with (fail)
        clear wi
        refine ⟨⟨i + 1, (by first | rfl | rw [HI.out.2]), HI.out.1, by first | rfl | trivial⟩, ?_⟩
        have := HI.out.1
        first | rw [HI.out.2] | skip
        simp only [intOf]
        clear HI
        omega
      | true =>
        go_wp2_with (fail)
        go_ret
        exact pb _ HD.out.2.1
    · have e0 : ¬ ((i : Int) < (x.qn : Int)) := by omega
      clear hlt hi
      go_wp2_with (fail)
      go_ret
      exact pb _ HD.out.2.1
end Go.Proofs.YtacokmkbikdmmaaGreatDoor.trees
