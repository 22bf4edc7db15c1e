/-
  impl.nodes, out of what impl.node does one level down; Expr.has and impl.ref.
  Conditions: none.
-/
import Derived.Test.YtacokmkbikdmmaaGreatDoorSmall
import Derived.Laws.BitsAllLaws
import Derived.Deep.AppendLies
import Derived.Laws.AppendOwn
import Derived.Laws.OwnMore
import Derived.Deep.RegionHeld3
import Derived.WalkSmall
namespace Go.Proofs.YtacokmkbikdmmaaGreatDoor.trees
open Go Go.RowKit
set_option linter.unusedVariables false
set_option linter.unusedSimpArgs false

attribute [local go_sem] run_store_float
theorem own_base {W : World} {B e sz n : Nat} {v : Value} {xs : List Value} (h : W.ownsRow B e sz v n xs) : ∀ k, v.ownBlock = some k → B ≤ k := fun k hk => (h.lt k hk).1
theorem own_ne {W : World} {B e sz n : Nat} {v : Value} {xs : List Value} (h : W.ownsRow B e sz v n xs) {k : Nat} (hk : k < B) : some k ≠ v.ownBlock := fun e => by have := own_base h k e.symm; omega
theorem own_below {w w' : World} {B e sz n : Nat} {v : Value} {xs : List Value} (h : w.ownsRow B e sz v n xs) (hb : Below w.heap.size w w') : w'.ownsRow B e sz v n xs :=
  ⟨h.1, h.2.imp id fun ⟨g, cap, cur, hv, hbg, hg, r⟩ => ⟨g, cap, cur, hv, hbg, (hb.block g (blk_lt hg)).trans hg, r⟩⟩
theorem news_alloc (w : World) (cs : List Value) (t : TypeId) (j : Nat) (u : Value) (h : cs[j]? = some u) : (w.alloc (.cells cs.toArray t)).cell? ((⟨w.heap.size, 0, none⟩ : Addr).add j) = some u := by
  have e : (⟨w.heap.size, 0, none⟩ : Addr).add j = ⟨w.heap.size, j, none⟩ := by unfold Addr.add; split <;> simp_all
  rw [e, blk_cell (heap_alloc_new w _) j]
  simpa using h
/-- a node's dynamic type and block -/
abbrev Nd := TypeId × Nat
def nvs : List Nd → List Value
  | [] => []
  | p :: r => .iface p.1 (.pointer (some ⟨p.2, 0, none⟩)) :: .int .i32 0 :: nvs r
theorem nvs_len : ∀ ks : List Nd, (nvs ks).length = ks.length * 2
  | [] => rfl
  | _ :: r => by
    show (nvs r).length + 1 + 1 = (r.length + 1) * 2
    rw [nvs_len r]
    omega
theorem nvs_app : ∀ ks ls : List Nd, nvs (ks ++ ls) = nvs ks ++ nvs ls
  | [], _ => rfl
  | p :: r, ls => by
    show _ :: _ :: nvs (r ++ ls) = _
    rw [nvs_app r ls]
    rfl
theorem nvs_at : ∀ (ks : List Nd) (i : Nat) (p : Nd), ks[i]? = some p → (nvs ks)[2 * i]? = some (.iface p.1 (.pointer (some ⟨p.2, 0, none⟩))) ∧ (nvs ks)[2 * i + 1]? = some (.int .i32 0)
  | [], i, p, h => by simp at h
  | q :: r, 0, p, h => by
    simp at h
    subst h
    exact ⟨rfl, rfl⟩
  | q :: r, i + 1, p, h => by
    have h' : r[i]? = some p := by simpa using h
    have := nvs_at r i p h'
    rw [show 2 * (i + 1) = (2 * i) + 1 + 1 by omega]
    exact this
theorem info43 : (Tryz.prog.info? 43).map (fun i => (i.zero, i.size, i.bytes)) = some (some (.agg #[.nilIface, .int .i32 0]), 2, 24) := by kernel_rfl
/-- a slice of nodes, opened -/
def Outs (w : World) (A : Option Addr) (ks : List Nd) : Prop := ∀ i p, ks[i]? = some p → ∃ g, A = some ⟨g, 0, none⟩ ∧ w.cell? ⟨g, 2 * i, none⟩ = some (.iface p.1 (.pointer (some ⟨p.2, 0, none⟩))) ∧ w.cell? ⟨g, 2 * i + 1, none⟩ = some (.int .i32 0)
theorem own_outs {w : World} {B n : Nat} {v : Value} {ks : List Nd} (h : w.ownsRow B 43 2 v n (nvs ks)) (hn : ks.length = n) : ∃ A cap, v = .slice A n cap ∧ n ≤ cap ∧ cap ≤ maxLen ∧ Outs w A ks := by
  rcases h.2 with ⟨hv, h0⟩ | ⟨g, cap, cur, hv, hB, hg, hnc, hcm, hsz, htk⟩
  · subst h0
    refine ⟨none, 0, hv, Nat.le_refl _, Nat.zero_le _, fun i p hp => ?_⟩
    have : ks = [] := List.eq_nil_of_length_eq_zero hn
    subst this
    simp at hp
  · refine ⟨_, cap, hv, hnc, hcm, fun i p hp => ⟨g, rfl, ?_, ?_⟩⟩
    · have := (nvs_at ks i p hp).1
      rw [blk_cell hg]
      rw [← htk, List.getElem?_take] at this
      split at this
      · rw [← this, Array.getElem?_toList]
      · cases this
    · have := (nvs_at ks i p hp).2
      rw [blk_cell hg]
      rw [← htk, List.getElem?_take] at this
      split at this
      · rw [← this, Array.getElem?_toList]
      · cases this
theorem Outs.below {w w' : World} {A : Option Addr} {ks : List Nd} (h : Outs w A ks) (hb : Below w.heap.size w w') : Outs w' A ks := fun i p hp => by
  obtain ⟨g, e, h1, h2⟩ := h i p hp
  exact ⟨g, e, (hb.cell (World.block_lt_of_cell? _ _ h1)).trans h1, (hb.cell (World.block_lt_of_cell? _ _ h2)).trans h2⟩
/-- what is told of a node, for the questions of chains and symbols -/
structure Top (w : World) (x : X) (p : Nd) : Prop where
  dot : x.kind = 16 → p.1 = 66 ∧ w.cell? ⟨p.2, 4, none⟩ = some (.int .u8 (x.chain % 256)) ∧ w.cell? ⟨p.2, 7, none⟩ = some (.bool (bits .and .i64 x.flags 4 != 0))
  index : x.kind = 17 → p.1 = 70 ∧ w.cell? ⟨p.2, 5, none⟩ = some (.int .u8 (x.chain % 256)) ∧ w.cell? ⟨p.2, 8, none⟩ = some (.bool (bits .and .i64 x.flags 4 != 0))
  call : x.kind = 18 → p.1 = 73 ∧ w.cell? ⟨p.2, 4, none⟩ = some (.int .u8 (x.chain % 256))
  other : x.kind ≠ 16 → x.kind ≠ 17 → x.kind ≠ 18 → p.1 ≠ 66 ∧ p.1 ≠ 70 ∧ p.1 ≠ 73
theorem Top.below {w w' : World} {x : X} {p : Nd} (h : Top w x p) (hb : Below w.heap.size w w') : Top w' x p :=
  ⟨fun e => ⟨(h.dot e).1, (hb.cell (World.block_lt_of_cell? _ _ (h.dot e).2.1)).trans (h.dot e).2.1, (hb.cell (World.block_lt_of_cell? _ _ (h.dot e).2.2)).trans (h.dot e).2.2⟩,
   fun e => ⟨(h.index e).1, (hb.cell (World.block_lt_of_cell? _ _ (h.index e).2.1)).trans (h.index e).2.1, (hb.cell (World.block_lt_of_cell? _ _ (h.index e).2.2)).trans (h.index e).2.2⟩,
   fun e => ⟨(h.call e).1, (hb.cell (World.block_lt_of_cell? _ _ (h.call e).2)).trans (h.call e).2⟩, h.other⟩
/-- a call's memory, seen from a base below its world -/
theorem hb2 {B : Nat} {W1 w1 w2 : World} (h1 : Below B W1 w1) (h2 : Below w1.heap.size w1 w2) (hB : B ≤ W1.heap.size := by first | assumption | exact Nat.le_refl _) : Below B W1 w2 := h1.trans (h2.mono (Nat.le_trans hB h1.size))
theorem size115 : (Tryz.prog.info? 115).map (·.size) = some 2 := by kernel_rfl
theorem blk_frozen {w : World} {g : Nat} {t : TypeId} {cs : Array Value} (h : w.heap[g]? = some (.cells cs t (0, 0))) (i : Nat) : w.frozen? ⟨g, i, none⟩ = false := by simp [World.frozen?, h]

set_option maxHeartbeats 4000000 in
set_option maxRecDepth 100000 in
theorem has (x : X) (k : Int) (W : World) : Calls Tryz.prog 55 #[.agg #[.int .i64 x.kind, .int .i64 x.op, .int .i64 x.ref, .int .i64 x.chain, .int .i64 x.flags, .float .f64 x.num, .slice x.sa x.sn x.sc, .string x.text, .slice x.ka x.kn x.kc, .slice x.pa x.pn x.pc, .slice x.qa x.qn x.qc, .slice x.fa x.fn x.fc, .slice x.ca x.cn x.cc], .int .i64 k] W (fun e w' => e = .returned (.bool (bits .and .i64 x.flags k != 0)) ∧ Below W.heap.size W w') := by
  go_enter Tryz.func55, Tryz.ntmps55
  go_upto_region 1 with (fail)
  have hD := heap_alloc_new W (.cells #[.int .i64 x.kind, .int .i64 x.op, .int .i64 x.ref, .int .i64 x.chain, .int .i64 x.flags, .float .f64 x.num, .slice x.sa x.sn x.sc, .string x.text, .slice x.ka x.kn x.kc, .slice x.pa x.pn x.pc, .slice x.qa x.qn x.qc, .slice x.fa x.fn x.fc, .slice x.ca x.cn x.cc] 30)
  have hDb := (Below.refl W.heap.size W).alloc (Nat.le_refl _) (.cells #[.int .i64 x.kind, .int .i64 x.op, .int .i64 x.ref, .int .i64 x.chain, .int .i64 x.flags, .float .f64 x.num, .slice x.sa x.sn x.sc, .string x.text, .slice x.ka x.kn x.kc, .slice x.pa x.pn x.pc, .slice x.qa x.qn x.qc, .slice x.fa x.fn x.fc, .slice x.ca x.cn x.cc] 30)
  have hDs : (W.alloc (.cells #[.int .i64 x.kind, .int .i64 x.op, .int .i64 x.ref, .int .i64 x.chain, .int .i64 x.flags, .float .f64 x.num, .slice x.sa x.sn x.sc, .string x.text, .slice x.ka x.kn x.kc, .slice x.pa x.pn x.pc, .slice x.qa x.qn x.qc, .slice x.fa x.fn x.fc, .slice x.ca x.cn x.cc] 30)).heap.size = W.heap.size + 1 := by simp
  generalize W.alloc (.cells #[.int .i64 x.kind, .int .i64 x.op, .int .i64 x.ref, .int .i64 x.chain, .int .i64 x.flags, .float .f64 x.num, .slice x.sa x.sn x.sc, .string x.text, .slice x.ka x.kn x.kc, .slice x.pa x.pn x.pc, .slice x.qa x.qn x.qc, .slice x.fa x.fn x.fc, .slice x.ca x.cn x.cc] 30) = w1 at hD hDb hDs ⊢
  have d4 : w1.cell? ⟨W.heap.size, 4, none⟩ = some (.int .i64 x.flags) := blk_cell hD 4
  have HD := Lib.hid (⟨hD, hDb, hDs⟩ : _ ∧ _ ∧ _)
  clear hD hDb hDs
  go_wp2_with (fail)
  go_ret
  exact ⟨rfl, HD.out.2.1⟩
set_option maxHeartbeats 4000000 in
set_option maxRecDepth 100000 in
theorem ref (n : Int) (W : World) : Calls Tryz.prog 57 #[.int .i64 n] W (fun e w' => e = .returned (.agg #[.int .u32 0, .int .u32 (n % 4294967296)]) ∧ Below W.heap.size W w') := by
  have hb := (Below.refl W.heap.size W).alloc (Nat.le_refl _) (.cells #[.int .u32 0, .int .u32 (n % 4294967296)] 115)
  go_enter Tryz.func57, Tryz.ntmps57
  go_wp2_with (fail)
  have hc := heap_alloc_new W (.cells #[.int .u32 0, .int .u32 (n % 4294967296)] 115)
  generalize W.alloc (.cells #[.int .u32 0, .int .u32 (n % 4294967296)] 115) = w1 at hb hc ⊢
  exact bodyPost_ret (results_cell_row rfl _ _ W.heap.size 115 _ (0, 0) _ rfl hc Tryz.underlying115 rfl (by rw [size115]; rfl)) rfl ⟨rfl, hb⟩
/-- what impl.node does, n levels down -/
def NodeOK (n : Nat) : Prop := ∀ (x : X) (N : Nat) (W W1 : World), Ex C2 N W n x.cells → Below N W W1 → N ≤ W.heap.size → Calls Tryz.prog 17 #[.agg #[.int .i64 x.kind, .int .i64 x.op, .int .i64 x.ref, .int .i64 x.chain, .int .i64 x.flags, .float .f64 x.num, .slice x.sa x.sn x.sc, .string x.text, .slice x.ka x.kn x.kc, .slice x.pa x.pn x.pc, .slice x.qa x.qn x.qc, .slice x.fa x.fn x.fc, .slice x.ca x.cn x.cc]] W1 (fun e w' => ∃ p : Nd, e = .returned (.tuple #[.agg #[.iface p.1 (.pointer (some ⟨p.2, 0, none⟩)), .int .i32 0], .bool true]) ∧ Top w' x p ∧ Below W1.heap.size W1 w')
def NodesP (B len : Nat) (W1 : World) (e : Ending) (w' : World) : Prop := ∃ v ks, e = .returned (.tuple #[v, .bool true]) ∧ w'.ownsRow B 43 2 v len (nvs ks) ∧ ks.length = len ∧ Below B W1 w'
set_option maxHeartbeats 4000000 in
set_option maxRecDepth 100000 in
theorem nodes (n : Nat) (IH : NodeOK n) (A : Option Addr) (len cap N : Nat) (W W1 : World) (hr : rows W N 13 A len cap (Ex C2 N W n)) (hl : len ≤ 200) (h0 : Below N W W1) (hN : N ≤ W.heap.size) : Calls Tryz.prog 30 #[.slice A len cap] W1 (fun e w' => NodesP W1.heap.size len W1 e w') := by
  obtain ⟨i0, hi, hz0, hz1, hz2⟩ := info_parts info43
  have HR := Lib.hid (⟨hr, IH, h0, hl⟩ : _ ∧ _ ∧ _ ∧ _)
  clear hr IH h0
  go_enter Tryz.func30, Tryz.ntmps30
  go_wp2_with (fail)
  go_loopw [4, 11] (fun v4 v11 wq => ∃ (i : Nat) (ks : List Nd), v11 = .int .i64 (i : Int) ∧ i ≤ len ∧ Hid (wq.ownsRow W1.heap.size 43 2 v4 i (nvs ks)) ∧ Hid (ks.length = i) ∧ Hid (Below W1.heap.size W1 wq)) (fun _ v11 _ => len - (intOf v11).toNat)
  case atStart => exact ⟨0, [], rfl, Nat.zero_le _, Lib.hid (World.ownsRow_nil _ _ _ _), Lib.hid rfl, Lib.hid (Below.refl _ _)⟩
  case round =>
    obtain ⟨i, ks, rfl, hil, HO, HK, HB⟩ := hrel
    have HBI := Lib.hid (bl HR.out.2.2.1 hN HB.out)
    by_cases hlt : i < len
    · have x0 : (0 : Int) ≤ (i : Int) := by omega
      have x1 : (i : Int) < (len : Int) := by omega
      have wi : wrap64 ((i : Int) + 1) = ((i + 1 : Nat) : Int) := by unfold wrap64; omega
      obtain ⟨gk, ok, csk, eAk, hgk, _, hEk, hck, hstk⟩ := (HR.out.1).at hlt
      obtain ⟨y, rfl⟩ := hEk.cells
      have k0 := inp HBI.out hgk (hck 0 _ rfl)
      rw [Nat.add_zero] at k0
      have k1 := inp HBI.out hgk (hck 1 _ rfl)
      have k2 := inp HBI.out hgk (hck 2 _ rfl)
      have k3 := inp HBI.out hgk (hck 3 _ rfl)
      have k4 := inp HBI.out hgk (hck 4 _ rfl)
      have k5 := inp HBI.out hgk (hck 5 _ rfl)
      have k6 := inp HBI.out hgk (hck 6 _ rfl)
      have k7 := inp HBI.out hgk (hck 7 _ rfl)
      have k8 := inp HBI.out hgk (hck 8 _ rfl)
      have k9 := inp HBI.out hgk (hck 9 _ rfl)
      have k10 := inp HBI.out hgk (hck 10 _ rfl)
      have k11 := inp HBI.out hgk (hck 11 _ rfl)
      have k12 := inp HBI.out hgk (hck 12 _ rfl)
      have HE := Lib.hid (⟨hEk, eAk⟩ : _ ∧ _)
      have HI := Lib.hid (⟨hlt, wi, hl⟩ : _ ∧ _ ∧ _)
      clear hck hEk hstk hil hlt wi hl
      rw [eAk]
      clear eAk
      go_upto_region 5 with (fail)
      have hPb := (Below.refl wr.heap.size wr).alloc (Nat.le_refl _) (.cells #[.int .i64 y.kind, .int .i64 y.op, .int .i64 y.ref, .int .i64 y.chain, .int .i64 y.flags, .float .f64 y.num, .slice y.sa y.sn y.sc, .string y.text, .slice y.ka y.kn y.kc, .slice y.pa y.pn y.pc, .slice y.qa y.qn y.qc, .slice y.fa y.fn y.fc, .slice y.ca y.cn y.cc] 30)
      have hP := heap_alloc_new wr (.cells #[.int .i64 y.kind, .int .i64 y.op, .int .i64 y.ref, .int .i64 y.chain, .int .i64 y.flags, .float .f64 y.num, .slice y.sa y.sn y.sc, .string y.text, .slice y.ka y.kn y.kc, .slice y.pa y.pn y.pc, .slice y.qa y.qn y.qc, .slice y.fa y.fn y.fc, .slice y.ca y.cn y.cc] 30)
      generalize wr.alloc (.cells #[.int .i64 y.kind, .int .i64 y.op, .int .i64 y.ref, .int .i64 y.chain, .int .i64 y.flags, .float .f64 y.num, .slice y.sa y.sn y.sc, .string y.text, .slice y.ka y.kn y.kc, .slice y.pa y.pn y.pc, .slice y.qa y.qn y.qc, .slice y.fa y.fn y.fc, .slice y.ca y.cn y.cc] 30) = w1 at hPb hP ⊢
      have p0 : w1.cell? ⟨wr.heap.size, 0, none⟩ = some (.int .i64 y.kind) := blk_cell hP 0
      have p1 : w1.cell? ⟨wr.heap.size, 1, none⟩ = some (.int .i64 y.op) := blk_cell hP 1
      have p2 : w1.cell? ⟨wr.heap.size, 2, none⟩ = some (.int .i64 y.ref) := blk_cell hP 2
      have p3 : w1.cell? ⟨wr.heap.size, 3, none⟩ = some (.int .i64 y.chain) := blk_cell hP 3
      have p4 : w1.cell? ⟨wr.heap.size, 4, none⟩ = some (.int .i64 y.flags) := blk_cell hP 4
      have p5 : w1.cell? ⟨wr.heap.size, 5, none⟩ = some (.float .f64 y.num) := blk_cell hP 5
      have p6 : w1.cell? ⟨wr.heap.size, 6, none⟩ = some (.slice y.sa y.sn y.sc) := blk_cell hP 6
      have p7 : w1.cell? ⟨wr.heap.size, 7, none⟩ = some (.string y.text) := blk_cell hP 7
      have p8 : w1.cell? ⟨wr.heap.size, 8, none⟩ = some (.slice y.ka y.kn y.kc) := blk_cell hP 8
      have p9 : w1.cell? ⟨wr.heap.size, 9, none⟩ = some (.slice y.pa y.pn y.pc) := blk_cell hP 9
      have p10 : w1.cell? ⟨wr.heap.size, 10, none⟩ = some (.slice y.qa y.qn y.qc) := blk_cell hP 10
      have p11 : w1.cell? ⟨wr.heap.size, 11, none⟩ = some (.slice y.fa y.fn y.fc) := blk_cell hP 11
      have p12 : w1.cell? ⟨wr.heap.size, 12, none⟩ = some (.slice y.ca y.cn y.cc) := blk_cell hP 12
      have HP := Lib.hid (⟨hPb, bl HR.out.2.2.1 hN (hb2 HB.out hPb)⟩ : _ ∧ _)
      clear hPb hP x0 x1 k0 k1 k2 k3 k4 k5 k6 k7 k8 k9 k10 k11 k12
      go_wp2_with (fail)
      refine (HR.out.2.1 y N W _ HE.out.1 HP.out.2 hN).mono ?_
      rintro e w2 ⟨p, rfl, -, hbel⟩
      have HC := Lib.hid (⟨hbel, hb2 HB.out (bl2 HP.out.1 hbel)⟩ : _ ∧ _)
      clear hbel p0 p1 p2 p3 p4 p5 p6 p7 p8 p9 p10 p11 p12
      go_upto_region 8 with (fail)
      have hP := heap_alloc_new w2 (.cells #[.iface p.1 (.pointer (some ⟨p.2, 0, none⟩)), .int .i32 0] 43)
      have hPb := (Below.refl w2.heap.size w2).alloc (Nat.le_refl _) (.cells #[.iface p.1 (.pointer (some ⟨p.2, 0, none⟩)), .int .i32 0] 43)
      generalize w2.alloc (.cells #[.iface p.1 (.pointer (some ⟨p.2, 0, none⟩)), .int .i32 0] 43) = w3 at hP hPb ⊢
      have c0 : w3.cell? ⟨w2.heap.size, 0, none⟩ = some (.iface p.1 (.pointer (some ⟨p.2, 0, none⟩))) := blk_cell hP 0
      have c1 : w3.cell? ⟨w2.heap.size, 1, none⟩ = some (.int .i32 0) := blk_cell hP 1
      have hO3 := own_below HO.out (bl2 (bl2 HP.out.1 HC.out.1) hPb)
      have HO3 := Lib.hid hO3
      have HW3 := Lib.hid (hb2 HC.out.2 hPb)
      clear hP hPb hO3
      have hb3 : i + 1 ≤ 200 := by have := HI.out.1; have := HI.out.2.2; omega
      have HI3 := Lib.hid hb3
      clear hb3
      go_wp2_with (at_builtin; refine wpList_append_own _ rfl (.tmp 22) (.tmp 24) 60 rfl W1.heap.size 43 i0 (.agg #[.nilIface, .int .i32 0]) 2 24 Tryz.underlying60 hi hz0 hz1 hz2 rfl (by decide) _ i (nvs ks) rfl (HO3.out.alloc _) ⟨w3.heap.size, 0, none⟩ 1 1 [.iface p.1 (.pointer (some ⟨p.2, 0, none⟩)), .int .i32 0] rfl rfl (fun j u h => news_alloc _ _ _ j u h) (by intro u hu; simp only [List.mem_cons, List.not_mem_nil, or_false] at hu; rcases hu with rfl | rfl <;> rfl) (by have := HI3.out; unfold maxLen; omega) (by have := HI3.out; omega) (by have := HW3.out.size; simp; omega) ?_)
      intro v' w4 hown hgr _
      have HO4 := Lib.hid (show w4.ownsRow W1.heap.size 43 2 v' (i + 1) (nvs (ks ++ [p])) by rw [nvs_app]; exact hown)
      have HW4 := Lib.hid ((HW3.out.alloc HW3.out.size _).grown hgr (by have := HW3.out.size; simp; omega) (own_base HO3.out))
      clear hown hgr
      go_upto_region 9 with (fail)
      clear c0 c1
      have wi := HI.out.2.1
      go_wp2_with (fail)
      clear wi
      refine ⟨⟨i + 1, ks ++ [p], (by first | rfl | rw [HI.out.2.1]), HI.out.1, HO4, Lib.hid (by rw [List.length_append, HK.out]; rfl), HW4⟩, ?_⟩
      have := HI.out.1
      first | rw [HI.out.2.1] | skip
      simp only [intOf]
      clear HI HI3
      omega
    · obtain rfl : i = len := by omega
      have e0 : ¬ ((i : Int) < (i : Int)) := by omega
      clear hlt hil
      go_wp2_with (fail)
      go_ret2
      exact ⟨_, ks, rfl, HO.out, HK.out, HB.out⟩
end Go.Proofs.YtacokmkbikdmmaaGreatDoor.trees
