/-
  FnExportNames: the walks of ExportRenamer.NextRenamedName and NextMinifiedName.
  Conditions: the tables that the row lists hold what it says.
-/
import Derived.Test.YtgflhmihmdflcaaDoorFnExportNamesPure
import Derived.Test.YtgflhmihmdflcaaDoorFnExportNamesNumber
import Derived.Test.YtgflhmihmdflcaaDoorFnExportNamesParts
import Derived.WalkKit
import Derived.WalkSmall
import Derived.BigQuiet
import Derived.Deep.RegionWith
import Derived.Lib.Hide
import Derived.Lib.OthersKept
import Derived.Maps.OwnSet
import Derived.Maps.OwnOps
namespace Go.Proofs.YtgflhmihmdflcaaDoor.fnExportNames
open Go.RowKit Go.Maps Go.WideMaps Go.Proofs.YtgflhmihmdflcaaDoorW.PrintWords Go.Proofs.YtgflhmihmdflcaaDoorW.PrintLast Go.Proofs.YtgflhmihmdflcaaDoorW.PrintMore Go.Proofs.YtgflhmihmdflcaaDoor.PFnExportNames
set_option linter.unusedVariables false
set_option linter.unusedSimpArgs false

theorem alloc_old {W : World} {o : Obj} {k : Nat} {x : Obj} (h : W.heap[k]? = some x) : (W.alloc o).heap[k]? = some x := (Below.heap_alloc W o k (Array.getElem?_eq_some_iff.1 h).1).trans h
theorem alloc_at {W : World} {o : Obj} {k : Nat} (hk : W.heap.size = k) : (W.alloc o).heap[k]? = some o := by subst hk; exact heap_alloc_new W o
theorem kl9 : Keyed Tryd.prog 9 := string_keyed Tryd.underlying9
theorem zero35 (w : World) : (zeroValue 35).run Tryd.prog w = .ok (.int .u32 0) w := by kernel_rfl
noncomputable abbrev El := plainElem (H := Unit) Tryd.prog 35
theorem eqlSome (bm : Nat) (w : World) : (binOp .eql 28 (.map (some bm)) (.map none)).run Tryd.prog w = .ok (.bool false) w := by kernel_rfl
theorem eqlNil (w : World) : (binOp .eql 28 (.map none) (.map none)).run Tryd.prog w = .ok (.bool true) w := by kernel_rfl
attribute [local go_sem] eqlSome eqlNil
/-- the table of Itoa's -/
def Tb (W : World) : Prop := Lib.TabIs Tryd.prog W "internal/strconv.uint64pow10" .u64 Lib.pow10Tab
theorem g10 : Tryd.prog.globalNamed "internal/strconv.uint64pow10" = some 1 := by kernel_rfl
theorem Tb.below {B : Nat} {W W' : World} (h : Tb W) (hb : Below B W W') (h1 : 1 < B) : Tb W' := var?_below hb g10 h1 h
/-- a renamer in memory -/
def Rn (W : World) (rb : Nat) (mv : Value) (us : Us) : Prop :=
  W.heap[rb]? = some (.cells #[mv, .int .i64 0] 30 (0, 0)) ∧ ((mv = .map none ∧ us = []) ∨ ∃ b D, mv = .map (some b) ∧ W.ownsMap Tryd.prog 9 El b us.length D ∧ Rep D us)
/-- what a call leaves -/
structure Kpt (B : Nat) (W W' : World) (rb : Nat) (mv mv' : Value) : Prop where
  below : Below B W W'
  rest : ∀ k, k < W.heap.size → k ≠ rb → mv ≠ .map (some k) → W'.heap[k]? = W.heap[k]?
  new : ∀ b, mv' = .map (some b) → mv = mv' ∨ W.heap.size ≤ b
/-- what NextRenamedName tells -/
def RPost (B : Nat) (W : World) (rb : Nat) (mv : Value) (us : Us) (name : ByteArray) (e : Ending) (w' : World) : Prop :=
  ∃ out v mv', e = .returned (.string out) ∧ look us out = none ∧ (look us name = none → out = name) ∧ out.size ≤ name.size + 21 ∧ v ≤ 1 + 2000 * (us.length + 1) ∧ Rn w' rb mv' ((out, v) :: us) ∧ Kpt B W w' rb mv mv'

set_option maxHeartbeats 8000000 in
set_option maxRecDepth 100000 in
theorem renameNil (B : Nat) (W : World) (rb : Nat) (name : ByteArray) (hb : W.heap[rb]? = some (.cells #[.map none, .int .i64 0] 30 (0, 0))) (hB : B ≤ rb) (hBW : B ≤ W.heap.size) (hn : name.size ≤ 2000) :
    Calls Tryd.prog 7 #[.pointer (some ⟨rb, 0, none⟩), .string name] W (RPost B W rb (.map none) [] name) := by
  have hkey : keyOf Tryd.prog 9 (.string name) = some (key name) := keyOf_string_mk Tryd.underlying9 (by unfold maxLen; omega)
  have hlt : rb < W.heap.size := (Array.getElem?_eq_some_iff.1 hb).1
  have hmm := @run_makeMap Tryd.prog
  have hkw := Rep.empty
  have c0 : W.cell? ⟨rb, 0, none⟩ = some (.map none) := blk_cell hb 0
  have f0 : W.frozen? ⟨rb, 0, none⟩ = false := Lib.frozen_of_heap hb 0
  have hsz : (W.setCell ⟨rb, 0, none⟩ (.map (some W.heap.size))).heap.size = W.heap.size := by simp [World.setCell]
  have hown1 := World.ownsMap_made (W.setCell ⟨rb, 0, none⟩ (.map (some W.heap.size))) Tryd.prog 9 El
  rw [hsz] at hown1
  have hb1 : ((W.setCell ⟨rb, 0, none⟩ (.map (some W.heap.size))).alloc (.map #[] 0)).heap[rb]? = some (.cells #[.map (some W.heap.size), .int .i64 0] 30 (0, 0)) := alloc_old (blk_put hb 0 _ rfl)
  have hBl : Below B W ((W.setCell ⟨rb, 0, none⟩ (.map (some W.heap.size))).alloc (.map #[] 0)) := ((Below.refl _ _).setCell hB _).alloc (by rw [hsz]; exact hBW) _
  have hrest : ∀ k, k < W.heap.size → k ≠ rb → ((W.setCell ⟨rb, 0, none⟩ (.map (some W.heap.size))).alloc (.map #[] 0)).heap[k]? = W.heap[k]? := fun k hk hne => (Below.heap_alloc _ _ k (by rw [hsz]; exact hk)).trans (Below.heap_setCell _ _ _ _ hne)
  have hs1 : ((W.setCell ⟨rb, 0, none⟩ (.map (some W.heap.size))).alloc (.map #[] 0)).heap.size = W.heap.size + 1 := by simp [World.setCell]
  have HB1 := Lib.hid hb1
  have HBL := Lib.hid hBl
  have HR := Lib.hid hrest
  have HO := Lib.hid hown1
  clear hb1 hBl hrest hown1 hb
  go_enter Tryd.func7, Tryd.ntmps7
  go_wp2_with (first
    | (at_lookup; refine wpList_lookup_own_ok_int _ rfl _ _ 28 rfl 9 35 .u32 kl9 Tryd.underlying28 Tryd.underlying35 (zero35 _) W.heap.size 0 (.map []) rfl HO.out _ (key name) rfl hkey ?_; intro c hat hwc; rw [show Maps.has (.map [] : DataW Unit) (key name) = false from rfl])
    | (at_mapUpdate; refine wpList_mapUpdate_own _ rfl _ _ _ 28 rfl 9 35 kl9 Tryd.underlying28 _ W.heap.size 0 (.map []) rfl HO.out (by unfold maxLen; omega) _ _ (key name) rfl rfl hkey _ [] (plainElem_int Tryd.underlying35 (by decide)) ?_; intro w1 hown1 hgrow1))
  go_ret
  refine ⟨name, 1, _, rfl, rfl, fun _ => rfl, by omega, by omega, ⟨(hgrow1.block rb (by rw [hs1]; omega) (by simp; omega)).trans HB1.out, .inr ⟨W.heap.size, _, rfl, hown1, Rep.empty.put name 1⟩⟩, ?_, fun k hk hne _ => (hgrow1.block k (by rw [hs1]; omega) (by simp; omega)).trans (HR.out k hk hne), fun b hb => .inr (by simp at hb; omega)⟩
  exact HBL.out.grown hgrow1 (by omega) (fun j hj => by cases hj; exact hBW)
theorem grow_below (W : World) (k : Nat) (os : Array Obj) : Below W.heap.size W (Sort.grow (W.drewN k) os) :=
  ⟨rfl, rfl, rfl, by simp [Sort.grow, World.drewN], fun i hi => by
    show (W.heap ++ os)[i]? = _
    rw [Array.getElem?_append_left hi]⟩
theorem app_spell (p : ByteArray) (n : Nat) : p ++ ⟨(Lib.itoa (n : Int)).toArray⟩ = app p n := rfl

set_option maxHeartbeats 16000000 in
set_option maxRecDepth 100000 in
theorem renameSome (B : Nat) (W : World) (rb b : Nat) (D : DataW Unit) (us : Us) (name : ByteArray) (hb : W.heap[rb]? = some (.cells #[.map (some b), .int .i64 0] 30 (0, 0))) (hO : W.ownsMap Tryd.prog 9 El b us.length D) (hR : Rep D us)
    (ht : Tb W) (hB1 : 1 < B) (hB : B ≤ rb) (hBb : B ≤ b) (hBW : B ≤ W.heap.size) (hn : name.size ≤ 2000) (hl : us.length ≤ 1000) (hv : ∀ k v, (k, v) ∈ us → v ≤ 1 + 2000 * us.length) :
    Calls Tryd.prog 7 #[.pointer (some ⟨rb, 0, none⟩), .string name] W (RPost B W rb (.map (some b)) us name) := by
  have hkey : keyOf Tryd.prog 9 (.string name) = some (key name) := keyOf_string_mk Tryd.underlying9 (by unfold maxLen; omega)
  have hlt : rb < W.heap.size := (Array.getElem?_eq_some_iff.1 hb).1
  have hblt : b < W.heap.size := hO.lt
  have hne : rb ≠ b := by
    rintro rfl
    obtain ⟨es, cl, h, _⟩ := hO
    rw [hb] at h
    cases h
  have c0 : W.cell? ⟨rb, 0, none⟩ = some (.map (some b)) := blk_cell hb 0
  have hn63 : us.length < maxLen := by unfold maxLen; omega
  have HO := Lib.hid hO
  have HR := Lib.hid hR
  have HBK := Lib.hid hb
  have HT := Lib.hid ht
  clear hO hb ht
  rcases hlk : look us name with _ | t
  · have hhas : Maps.has D (key name) = false := by rw [(hR.2 name).1, hlk]; rfl
    have HH := Lib.hid hhas
    clear hhas hR
    go_enter Tryd.func7, Tryd.ntmps7
    go_wp2_with (first
      | (at_lookup; refine wpList_lookup_own_ok_int _ rfl _ _ 28 rfl 9 35 .u32 kl9 Tryd.underlying28 Tryd.underlying35 (zero35 _) b us.length D rfl HO.out _ (key name) rfl hkey ?_; intro c hat hwc; rw [HH.out]; clear hat hwc)
      | (at_mapUpdate; refine wpList_mapUpdate_own _ rfl _ _ _ 28 rfl 9 35 kl9 Tryd.underlying28 _ b us.length D rfl HO.out hn63 _ _ (key name) rfl rfl hkey _ [] (plainElem_int Tryd.underlying35 (by decide)) ?_; intro w1 hown1 hgrow1))
    go_ret
    refine ⟨name, 1, _, rfl, hlk, fun _ => rfl, by omega, by omega, ⟨(hgrow1.block rb hlt (by simp; omega)).trans HBK.out, .inr ⟨b, _, rfl, hown1, HR.out.put name 1⟩⟩, ⟨?_, fun k hk h1 h2 => hgrow1.block k hk (fun e => h2 (by rw [Option.some.inj e])), fun b' hb' => .inl (by first | rfl | exact hb'.symm | trivial)⟩⟩
    exact (Below.refl _ _).grown hgrow1 hBW (fun j hj => by cases hj; exact hBb)
  · have hhas : Maps.has D (key name) = true := by rw [(hR.2 name).1, hlk]; rfl
    have hat := (hR.2 name).2 t hlk
    obtain ⟨J, J1, J2, J3, J4⟩ := first_free us name t
    have htv := hv name t (look_mem hlk)
    have key2 : ∀ s, s.size ≤ 4000 → keyOf Tryd.prog 9 (.string s) = some (key s) := fun s hs => keyOf_string_mk Tryd.underlying9 (by unfold maxLen; omega)
    have hsz : ∀ m, m ≤ t + J → (app name m).size ≤ 4000 := fun m hm => by have := app_size name m (by omega); omega
    have hasJ : ∀ j, 1 ≤ j → j < J → Maps.has D (key (app name (t + j))) = true := fun j h1 h2 => by
      rw [(hR.2 _).1]
      cases h : look us (app name (t + j))
      · exact absurd h (J4 j h1 h2)
      · rfl
    have hasN : Maps.has D (key (app name (t + J))) = false := by rw [(hR.2 _).1, J3]; rfl
    have HH := Lib.hid hhas
    have HA := Lib.hid hat
    have K2 := Lib.hid key2
    have HS := Lib.hid hsz
    have HJ := Lib.hid hasJ
    have HN := Lib.hid hasN
    have J3' := Lib.hid J3
    clear hhas hat key2 hsz hasJ hasN J3 J4 hR hv
    go_enter Tryd.func7, Tryd.ntmps7
    go_wp2_with (first
      | (at_lookup; refine wpList_lookup_own_ok_int _ rfl _ _ 28 rfl 9 35 .u32 kl9 Tryd.underlying28 Tryd.underlying35 (zero35 _) b us.length D rfl HO.out _ (key name) rfl hkey ?_; intro c hat hwc; rw [HH.out]; obtain rfl : c = (t : Int) := by { have h := hat.symm.trans HA.out; simpa using h }; clear hat hwc))
    go_loopw [1, 5] (fun v1 v5 wr => ∃ (j : Nat) (s : ByteArray), v5 = .int .u32 ((t + j : Nat) : Int) ∧ v1 = .string s ∧ j < J ∧ Hid (Below W.heap.size W wr)) (fun _ v5 _ => t + J - (intOf v5).toNat)
    case atStart => exact ⟨0, name, by simp, rfl, by omega, Lib.hid (Below.refl _ _)⟩
    case round =>
      obtain ⟨j, s, rfl, rfl, hjJ, HB⟩ := hrel
      clear c0
      have u1 : IntKind.u32.wrap (((t + j : Nat) : Int) + 1) = ((t + (j + 1) : Nat) : Int) := by rw [IntKind.wrap_u32]; omega
      have u2 : IntKind.i64.wrap ((t + (j + 1) : Nat) : Int) = ((t + (j + 1) : Nat) : Int) := by rw [IntKind.wrap_i64]; omega
      have HTr := Lib.hid (HT.out.below HB.out (by omega))
      have hi := Tryd.strconv_Itoa ((t + (j + 1) : Nat) : Int) (by omega) (by omega) wr HTr.out
      have HI := Lib.hid hi
      clear hi
      generalize hm : t + (j + 1) = m at u1 u2 HI
      generalize hmj : ((t + j : Nat) : Int) = mj at u1
      have HMJ := Lib.hid hmj
      clear hmj
      go_wp2_with (go_at_call 11; refine HI.out.mono ?_)
      rintro e w2 ⟨rfl, k, os, rfl⟩
      have HB2 := Lib.hid (HB.out.trans ((grow_below wr k os).mono HB.out.size))
      have d0 : (Sort.grow (wr.drewN k) os).cell? ⟨rb, 0, none⟩ = some (.map (some b)) := (HB2.out.cell (by exact hlt)).trans (blk_cell HBK.out 0)
      have HO2 := Lib.hid (show (Sort.grow (wr.drewN k) os).ownsMap Tryd.prog 9 El b us.length D by
        obtain ⟨es, cl, h1, h2⟩ := HO.out
        exact ⟨es, cl, (HB2.out.block b hblt).trans h1, h2⟩)
      generalize Sort.grow (wr.drewN k) os = w2 at HB2 d0 HO2 ⊢
      clear HI HTr HB
      have hms : m ≤ t + J := by omega
      have hcat : ¬ 9223372036854775807 < name.size + (Lib.itoa (m : Int)).length := by have := Lib.itoa_length_le (m : Int) (by omega) (by omega); omega
      by_cases hlast : j + 1 = J
      · have hh := HN.out
        rw [show t + J = m by omega] at hh
        have HH2 := Lib.hid hh
        have h3 := J3'.out
        rw [show t + J = m by omega] at h3
        have J3m := Lib.hid h3
        have HSm := Lib.hid (HS.out m hms)
        have hmv : m ≤ 1 + 2000 * (us.length + 1) := by omega
        have hm0 : m < 4294967296 := by omega
        have hwf : (Lit.int .u32 (m : Int)).wf = true := by
          have h1 : IntKind.u32.min = 0 := by decide
          have h2 : IntKind.u32.max = 4294967295 := by decide
          simp only [Lit.wf, Bool.and_eq_true, decide_eq_true_eq]
          omega
        have has := app_size name m hm0
        clear hh h3 hms hm HJ HN J3' HS htv J1 J2 hlast hjJ
        go_wp2_with (first
          | (at_lookup; refine wpList_lookup_own_ok_int _ rfl _ _ 28 rfl 9 35 .u32 kl9 Tryd.underlying28 Tryd.underlying35 (zero35 _) b us.length D rfl HO2.out _ (key (app name m)) rfl (K2.out (app name m) HSm.out) ?_; intro c hat hwc; rw [HH2.out]; clear hat hwc)
          | (at_mapUpdate; refine wpList_mapUpdate_own _ rfl _ _ _ 28 rfl 9 35 kl9 Tryd.underlying28 _ b us.length D rfl HO2.out hn63 _ _ (key (app name m)) rfl rfl (K2.out (app name m) HSm.out) _ [] (plainElem_int Tryd.underlying35 hwf) ?_; intro w3 hown3 hgrow3))
        go_ret
        have hlt2 : rb < w2.heap.size := by have := HB2.out.size; omega
        refine ⟨app name m, m, _, rfl, J3m.out, fun h => absurd (hlk.symm.trans h) (by simp), has, hmv, ⟨(hgrow3.block rb hlt2 (by simp; omega)).trans ((HB2.out.block rb hlt).trans HBK.out), .inr ⟨b, _, rfl, hown3, HR.out.put (app name m) m⟩⟩, ⟨?_, fun k hk h1 h2 => (hgrow3.block k (by have := HB2.out.size; omega) (fun e => h2 (by rw [Option.some.inj e]))).trans (HB2.out.block k hk), fun b' hb' => .inl rfl⟩⟩
        exact ((HB2.out.mono hBW).grown hgrow3 (by have := HB2.out.size; omega) (fun j hj => by cases hj; exact hBb))
      · have hlt' : j + 1 < J := by omega
        have hh := HJ.out (j + 1) (by omega) hlt'
        rw [hm] at hh
        have HH2 := Lib.hid hh
        clear hh
        go_wp2_with (first
          | (at_lookup; refine wpList_lookup_own_ok_int _ rfl _ _ 28 rfl 9 35 .u32 kl9 Tryd.underlying28 Tryd.underlying35 (zero35 _) b us.length D rfl HO2.out _ (key (app name m)) rfl (K2.out (app name m) (HS.out m hms)) ?_; intro c hat hwc; rw [HH2.out]; clear hat hwc))
        refine ⟨⟨j + 1, app name m, by rw [hm], rfl, hlt', HB2⟩, ?_⟩
        have h := HMJ.out
        simp only [intOf]
        omega
theorem rename (B : Nat) (W : World) (rb : Nat) (mv : Value) (us : Us) (name : ByteArray) (hR : Rn W rb mv us) (ht : Tb W) (hB1 : 1 < B) (hB : B ≤ rb) (hBb : ∀ b, mv = .map (some b) → B ≤ b) (hBW : B ≤ W.heap.size) (hn : name.size ≤ 2000) (hl : us.length ≤ 1000) (hv : ∀ k v, (k, v) ∈ us → v ≤ 1 + 2000 * us.length) :
    Calls Tryd.prog 7 #[.pointer (some ⟨rb, 0, none⟩), .string name] W (RPost B W rb mv us name) := by
  obtain ⟨hb, ⟨rfl, rfl⟩ | ⟨b, D, rfl, hO, hr⟩⟩ := hR
  · exact renameNil B W rb name hb hB hBW hn
  · exact renameSome B W rb b D us name hb hO hr ht hB1 hB (hBb b rfl) hBW hn hl hv
/-- the minifier's two texts -/
structure Mn (W : World) : Prop where
  h : W.cell? ⟨0, 0, none⟩ = some (.string H)
  t : W.cell? ⟨0, 1, none⟩ = some (.string T)
theorem Mn.below {B : Nat} {W W' : World} (h : Mn W) (hb : Below B W W') (h1 : 1 < B) : Mn W' := ⟨(hb.cell (by show 0 < B; omega)).trans h.h, (hb.cell (by show 0 < B; omega)).trans h.t⟩
set_option maxHeartbeats 8000000 in
set_option maxRecDepth 100000 in
theorem nextMini (B : Nat) (W : World) (mb c : Nat) (hm : W.heap[mb]? = some (.cells #[.map none, .int .i64 c] 30 (0, 0))) (hM : Mn W) (hB1 : 1 < B) (hB : B ≤ mb) (hBW : B ≤ W.heap.size) (hc : c ≤ 1000) :
    Calls Tryd.prog 8 #[.pointer (some ⟨mb, 0, none⟩)] W fun e w' => e = .returned (.string ⟨(mini c).toArray⟩) ∧ w'.heap[mb]? = some (.cells #[.map none, .int .i64 ((c + 1 : Nat) : Int)] 30 (0, 0)) ∧ Below B W w' ∧ (∀ k, k < W.heap.size → k ≠ mb → w'.heap[k]? = W.heap[k]?) := by
  have c1 : W.cell? ⟨mb, 1, none⟩ = some (.int .i64 c) := blk_cell hm 1
  have hlt : mb < W.heap.size := (Array.getElem?_eq_some_iff.1 hm).1
  have g0 := hM.h
  have g1 := hM.t
  have HM := Lib.hid hm
  have HMN := Lib.hid hM
  have u1 : IntKind.i64.wrap ((c : Int) + 1) = ((c + 1 : Nat) : Int) := by rw [IntKind.wrap_i64]; omega
  clear hm hM
  go_enter Tryd.func8, Tryd.ntmps8
  go_wp2_with (fail)
  go_region_with (go_at_call 12; refine (number c (by omega) _).mono ?_; rintro e w1 ⟨rfl, hb1⟩)
  all_goals
    have hb2 : Below W.heap.size W w1 := ((Below.refl W.heap.size W).drew).trans hb1
    have hm1 := (hb2.block mb hlt).trans HM.out
    have d1 : w1.cell? ⟨mb, 1, none⟩ = some (.int .i64 c) := blk_cell hm1 1
    have f1 : w1.frozen? ⟨mb, 1, none⟩ = false := Lib.frozen_of_heap hm1 1
    have HB := Lib.hid hb2
    have HM1 := Lib.hid hm1
    clear hb1 hb2 hm1
    go_wp2_with (fail)
    go_ret
    refine ⟨rfl, blk_put HM1.out 1 _ rfl, (HB.out.mono hBW).setCell hB _, fun k hk hne => (Below.heap_setCell _ _ _ _ hne).trans (HB.out.block k hk)⟩
end Go.Proofs.YtgflhmihmdflcaaDoor.fnExportNames
