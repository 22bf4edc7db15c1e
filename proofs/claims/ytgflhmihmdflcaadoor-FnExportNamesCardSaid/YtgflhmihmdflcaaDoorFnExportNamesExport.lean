/-
  FnExportNames: the walk of impl.ExportNames.
  Conditions: at most 100 names of at most 20 bytes; the tables that the row lists hold what it says.
-/
import Derived.Test.YtgflhmihmdflcaaDoorFnExportNamesRename
import Derived.Laws.AppendOwn
import Derived.Laws.OwnMore
import Derived.Maps.AppendAt
namespace Go.Proofs.YtgflhmihmdflcaaDoor.fnExportNames
open Go.RowKit Go.Maps Go.WideMaps Go.Proofs.YtgflhmihmdflcaaDoorW.PrintWords Go.Proofs.YtgflhmihmdflcaaDoorW.PrintLast Go.Proofs.YtgflhmihmdflcaaDoorW.PrintMore Go.Proofs.YtgflhmihmdflcaaDoor.PFnExportNames
set_option linter.unusedVariables false
set_option linter.unusedSimpArgs false

def cellsB (l : List ByteArray) : List Value := l.map Value.string
theorem cell_of {W W' : World} {k j : Nat} (h : W'.heap[k]? = W.heap[k]?) : W'.cell? ⟨k, j, none⟩ = W.cell? ⟨k, j, none⟩ := by simp [World.cell?, h]
/-- a row that is read -/
def RA (W : World) (N : Nat) (v : Value) (n : Nat) (cs : List Value) : Prop := ∃ A cap, v = .slice A n cap ∧ n ≤ cap ∧ ∀ i, i < n → ∃ g, A = some ⟨g, 0, none⟩ ∧ g < N ∧ W.cell? ⟨g, i, none⟩ = cs[i]?
theorem RA.keep {W W' : World} {N n : Nat} {v : Value} {cs : List Value} (h : RA W N v n cs) (hk : ∀ g, g < N → W'.heap[g]? = W.heap[g]?) : RA W' N v n cs := by
  obtain ⟨a, cap, h1, h2, h3⟩ := h
  refine ⟨a, cap, h1, h2, fun i hi => ?_⟩
  obtain ⟨g, e, hg, c1⟩ := h3 i hi
  exact ⟨g, e, hg, (cell_of (hk g hg)).trans c1⟩
theorem RA.mono {W : World} {N N' n : Nat} {v : Value} {cs : List Value} (h : RA W N v n cs) (hn : N ≤ N') : RA W N' v n cs := by
  obtain ⟨a, cap, h1, h2, h3⟩ := h
  exact ⟨a, cap, h1, h2, fun i hi => by obtain ⟨g, e, hg, c⟩ := h3 i hi; exact ⟨g, e, Nat.lt_of_lt_of_le hg hn, c⟩⟩
theorem RA.of_own {W : World} {base e n : Nat} {v : Value} {cs : List Value} (h : W.ownsRow base e 1 v n cs) : RA W W.heap.size v n cs := by
  have h0 := h
  rcases h.2 with ⟨rfl, hn⟩ | ⟨g, cap, cur, rfl, hb, hg, hc, _⟩
  · exact ⟨none, 0, by rw [hn], by omega, fun i hi => by omega⟩
  · refine ⟨some ⟨g, 0, none⟩, cap, rfl, hc, fun i hi => ⟨g, rfl, (Array.getElem?_eq_some_iff.1 hg).1, ?_⟩⟩
    rw [h0.cellAt _ (by omega)]
theorem Rn.keep {W W' : World} {rb : Nat} {mv : Value} {us : Us} (h : Rn W rb mv us) (hk : ∀ k, k = rb ∨ mv = .map (some k) → W'.heap[k]? = W.heap[k]?) : Rn W' rb mv us := by
  refine ⟨(hk rb (.inl rfl)).trans h.1, ?_⟩
  rcases h.2 with h2 | ⟨b, D, rfl, ⟨es, cl, h3, h4⟩, h5⟩
  · exact .inl h2
  · exact .inr ⟨b, D, rfl, ⟨es, cl, (hk b (.inr rfl)).trans h3, h4⟩, h5⟩
theorem Rn.lt {W : World} {rb : Nat} {mv : Value} {us : Us} (h : Rn W rb mv us) {k : Nat} (hk : k = rb ∨ mv = .map (some k)) : k < W.heap.size := by
  rcases hk with rfl | rfl
  · exact (Array.getElem?_eq_some_iff.1 h.1).1
  · rcases h.2 with ⟨h2, _⟩ | ⟨b, D, h2, h3, _⟩
    · cases h2
    · obtain rfl : k = b := by simpa using h2
      exact h3.lt
/-- the map's block is no row -/
theorem Rn.no_row {W : World} {rb : Nat} {mv : Value} {us : Us} (h : Rn W rb mv us) {k t : Nat} {cs : Array Value} (hk : W.heap[k]? = some (.cells cs t (0, 0))) : mv ≠ .map (some k) := by
  rintro rfl
  rcases h.2 with ⟨h2, _⟩ | ⟨b, D, h2, ⟨es, cl, h3, _⟩, _⟩
  · cases h2
  · obtain rfl : k = b := by simpa using h2
    rw [hk] at h3
    cases h3
/-- the names given so far -/
structure Good (ss outs : List ByteArray) (us : Us) : Prop where
  len : outs.length ≤ ss.length
  ks : us.map (·.1) = outs.reverse
  new : ∀ i (h : i < outs.length), outs[i] ∉ outs.take i
  wish : ∀ i (h : i < outs.length), ss.getD i ⟨#[]⟩ ∉ outs.take i → outs[i] = ss.getD i ⟨#[]⟩
  val : ∀ k v, (k, v) ∈ us → v ≤ 1 + 2000 * us.length
theorem Good.start (ss : List ByteArray) : Good ss [] [] := ⟨Nat.zero_le _, rfl, fun i h => by simp at h, fun i h => by simp at h, fun k v h => by simp at h⟩
theorem Good.ulen {ss outs : List ByteArray} {us : Us} (h : Good ss outs us) : us.length = outs.length := by
  have := congrArg List.length h.ks
  simpa using this
theorem Good.step {ss outs : List ByteArray} {us : Us} (h : Good ss outs us) (hlt : outs.length < ss.length) {out : ByteArray} {v : Nat} (h1 : look us out = none) (h2 : look us (ss.getD outs.length ⟨#[]⟩) = none → out = ss.getD outs.length ⟨#[]⟩) (h3 : v ≤ 1 + 2000 * (us.length + 1)) : Good ss (outs ++ [out]) ((out, v) :: us) := by
  have e : ∀ s, look us s = none ↔ s ∉ outs := fun s => by rw [look_none, h.ks, List.mem_reverse]
  refine ⟨by simp; omega, by simp [h.ks], fun i hi => ?_, fun i hi hw => ?_, fun k w hk => ?_⟩
  · by_cases hl : i < outs.length
    · rw [List.getElem_append_left hl, List.take_append_of_le_length (Nat.le_of_lt hl)]
      exact h.new i hl
    · obtain rfl : i = outs.length := by simp at hi; omega
      rw [List.getElem_append_right (Nat.le_refl _)]
      simpa using (e out).1 h1
  · by_cases hl : i < outs.length
    · rw [List.take_append_of_le_length (Nat.le_of_lt hl)] at hw
      rw [List.getElem_append_left hl]
      exact h.wish i hl hw
    · obtain rfl : i = outs.length := by simp at hi; omega
      rw [List.getElem_append_right (Nat.le_refl _)]
      simp at hw ⊢
      exact h2 ((e _).2 hw)
  · rw [List.length_cons]
    rcases List.mem_cons.1 hk with hk | hk
    · simp only [Prod.mk.injEq] at hk; omega
    · have := h.val k w hk; omega
def minis (n : Nat) : List ByteArray := (List.range n).map fun i => ⟨(mini i).toArray⟩
/-- what ExportNames tells -/
def ExPost (W : World) (ss : List ByteArray) (e : Ending) (w' : World) : Prop :=
  ∃ (outs : List ByteArray) (us : Us) (r1 r2 : Value), e = .returned (.tuple #[r1, r2]) ∧ outs.length = ss.length ∧ Good ss outs us ∧ RA w' w'.heap.size r1 ss.length (cellsB outs) ∧ RA w' w'.heap.size r2 ss.length (cellsB (minis ss.length)) ∧ Below W.heap.size W w'
/-- what stays over the rounds -/
structure Inv (W wr : World) (v2 v3 mv : Value) (ka kb mc : Nat) (outs : List ByteArray) (us : Us) : Prop where
  rn : Rn wr W.heap.size mv us
  m : wr.heap[W.heap.size + 1]? = some (.cells #[.map none, .int .i64 mc] 30 (0, 0))
  a : wr.ownsRow (W.heap.size + 2) 9 1 v2 ka (cellsB outs)
  b : wr.ownsRow (W.heap.size + 2) 9 1 v3 kb (cellsB (minis kb))
  ne : ∀ g, v2.ownBlock = some g → v3.ownBlock ≠ some g
  below : Below W.heap.size W wr
  mb : ∀ b, mv = .map (some b) → W.heap.size + 2 ≤ b
section
variable {W wr w1 : World} {v2 v3 mv mv' v' : Value} {ka kb mc : Nat} {outs : List ByteArray} {us us' : Us}
theorem Inv.size (h : Inv W wr v2 v3 mv ka kb mc outs us) : W.heap.size + 2 ≤ wr.heap.size := by
  have := (Array.getElem?_eq_some_iff.1 h.m).1
  omega
theorem Inv.call (h : Inv W wr v2 v3 mv ka kb mc outs us) (hr : Rn w1 W.heap.size mv' us') (hk : Kpt W.heap.size wr w1 W.heap.size mv mv') : Inv W w1 v2 v3 mv' ka kb mc outs us' := by
  have hs := h.size
  have row : ∀ {v : Value} {n : Nat} {xs : List Value}, wr.ownsRow (W.heap.size + 2) 9 1 v n xs → w1.ownsRow (W.heap.size + 2) 9 1 v n xs := fun {v n xs} ho => own_move ho fun g hg => by
    obtain ⟨cs, hcs⟩ := own_typed ho g hg
    exact hk.rest g (ho.lt g hg).2 (by have := (ho.lt g hg).1; omega) (h.rn.no_row hcs)
  refine ⟨hr, (hk.rest _ (by omega) (by omega) (h.rn.no_row h.m)).trans h.m, row h.a, row h.b, h.ne, h.below.trans hk.below, fun b hb => ?_⟩
  rcases hk.new b hb with e | e
  · exact h.mb b (e.trans hb)
  · omega
theorem Inv.appA (h : Inv W wr v2 v3 mv ka kb mc outs us) (o : Obj) (out : ByteArray) (ho : w1.ownsRow (W.heap.size + 2) 9 1 v' (ka + 1) (cellsB outs ++ [.string out])) (hg : (wr.alloc o).grownBy w1 v2.ownBlock) (hl : v'.ownBlock = v2.ownBlock ∨ v'.ownBlock = some (wr.alloc o).heap.size) :
    Inv W w1 v' v3 mv (ka + 1) kb mc (outs ++ [out]) us := by
  have hs := h.size
  have blk : ∀ k, k < wr.heap.size → some k ≠ v2.ownBlock → w1.heap[k]? = wr.heap[k]? := fun k hk hne => (hg.block k (by simp; omega) hne).trans (Below.heap_alloc wr o k hk)
  have far : ∀ k, k < W.heap.size + 2 → some k ≠ v2.ownBlock := fun k hk e => by have := (h.a.lt k e.symm).1; omega
  refine ⟨h.rn.keep fun k hk => blk k (h.rn.lt hk) ?_, (blk _ (by omega) (far _ (by omega))).trans h.m, by rw [cellsB, List.map_append]; exact ho, own_move h.b fun g hg' => blk g (h.b.lt g hg').2 (fun e => h.ne g e.symm hg'), fun g hg' => ?_, (h.below.alloc (by omega) o).grown hg (by simp; omega) (fun k hk => by have := (h.a.lt k hk).1; omega), h.mb⟩
  · rcases hk with rfl | hk
    · exact far _ (by omega)
    · intro e
      obtain ⟨cs, hcs⟩ := own_typed h.a k e.symm
      exact h.rn.no_row hcs hk
  · rcases hl with e | e
    · exact h.ne g (e.symm.trans hg')
    · intro e2
      have := (h.b.lt g e2).2
      rw [e] at hg'
      simp at hg'
      omega
theorem Inv.short (h : Inv W wr v2 v3 mv ka kb mc outs us) (hm : w1.heap[W.heap.size + 1]? = some (.cells #[.map none, .int .i64 ((mc + 1 : Nat) : Int)] 30 (0, 0))) (hb : Below W.heap.size wr w1) (hr : ∀ k, k < wr.heap.size → k ≠ W.heap.size + 1 → w1.heap[k]? = wr.heap[k]?) : Inv W w1 v2 v3 mv ka kb (mc + 1) outs us := by
  have hs := h.size
  have row : ∀ {v : Value} {n : Nat} {xs : List Value}, wr.ownsRow (W.heap.size + 2) 9 1 v n xs → w1.ownsRow (W.heap.size + 2) 9 1 v n xs := fun {v n xs} ho => own_move ho fun g hg => hr g (ho.lt g hg).2 (by have := (ho.lt g hg).1; omega)
  refine ⟨h.rn.keep fun k hk => hr k (h.rn.lt hk) ?_, hm, row h.a, row h.b, h.ne, h.below.trans hb, h.mb⟩
  rcases hk with rfl | hk
  · omega
  · have := h.mb k hk
    omega
theorem minis_succ (k : Nat) : minis (k + 1) = minis k ++ [⟨(mini k).toArray⟩] := by simp [minis, List.range_succ]
theorem Inv.appB (h : Inv W wr v2 v3 mv ka kb mc outs us) (o : Obj) (ho : w1.ownsRow (W.heap.size + 2) 9 1 v' (kb + 1) (cellsB (minis kb) ++ [.string ⟨(mini kb).toArray⟩])) (hg : (wr.alloc o).grownBy w1 v3.ownBlock) (hl : v'.ownBlock = v3.ownBlock ∨ v'.ownBlock = some (wr.alloc o).heap.size) :
    Inv W w1 v2 v' mv ka (kb + 1) mc outs us := by
  have hs := h.size
  have blk : ∀ k, k < wr.heap.size → some k ≠ v3.ownBlock → w1.heap[k]? = wr.heap[k]? := fun k hk hne => (hg.block k (by simp; omega) hne).trans (Below.heap_alloc wr o k hk)
  have far : ∀ k, k < W.heap.size + 2 → some k ≠ v3.ownBlock := fun k hk e => by have := (h.b.lt k e.symm).1; omega
  refine ⟨h.rn.keep fun k hk => blk k (h.rn.lt hk) ?_, (blk _ (by omega) (far _ (by omega))).trans h.m, own_move h.a fun g hg' => blk g (h.a.lt g hg').2 (fun e => h.ne g hg' e.symm), by rw [minis_succ, cellsB, List.map_append]; exact ho, fun g hg' => ?_, (h.below.alloc (by omega) o).grown hg (by simp; omega) (fun k hk => by have := (h.b.lt k hk).1; omega), h.mb⟩
  · rcases hk with rfl | hk
    · exact far _ (by omega)
    · intro e
      obtain ⟨cs, hcs⟩ := own_typed h.b k e.symm
      exact h.rn.no_row hcs hk
  · rcases hl with e | e
    · rw [e]
      exact h.ne g hg'
    · rw [e]
      intro e2
      have := (h.a.lt g hg').2
      simp at e2
      omega
end
set_option maxHeartbeats 8000000 in
set_option maxRecDepth 100000 in
theorem exportNames (W : World) (A : Option Addr) (c : Nat) (ss : List ByteArray) (hC : Kd.C Kd.string W A ss.length ss) (hc : ss.length ≤ c) (hn : ss.length ≤ 100) (hs : ∀ s ∈ ss, s.size ≤ 20) (hT : Tb W) (hM : Mn W) (h1 : 1 < W.heap.size) :
    Calls Tryd.prog 5 #[.slice A ss.length c] W (ExPost W ss) := by
  obtain ⟨i0, hi, hz0, hz1, hz2⟩ := info_parts info9
  have HC := Lib.hid hC
  have HT := Lib.hid hT
  have HM := Lib.hid hM
  have HS := Lib.hid hs
  have hI : Inv W ((W.alloc (.cells #[.map none, .int .i64 0] 30)).alloc (.cells #[.map none, .int .i64 0] 30)) (.slice none 0 0) (.slice none 0 0) (.map none) 0 0 0 [] [] := by
    refine ⟨⟨alloc_old (alloc_at rfl), .inl ⟨rfl, rfl⟩⟩, alloc_at (by simp), World.ownsRow_nil _ _ _ _, World.ownsRow_nil _ _ _ _, fun g hg => by simp [Value.ownBlock] at hg, ((Below.refl _ _).alloc (Nat.le_refl _) _).alloc (by simp) _, fun b h => by cases h⟩
  have HI := Lib.hid hI
  clear hC hT hM hs hI
  go_enter Tryd.func5, Tryd.ntmps5
  go_wp2_with (fail)
  go_loopw [2, 3, 12] (fun v2 v3 v12 wr => ∃ (k : Nat) (outs : List ByteArray) (us : Us) (mv : Value), v12 = .int .i64 k ∧ k ≤ ss.length ∧ outs.length = k ∧ Hid (Good ss outs us) ∧ Hid (Inv W wr v2 v3 mv k k k outs us)) (fun _ _ v12 _ => ss.length - (intOf v12).toNat)
  case atStart => exact ⟨0, [], [], .map none, rfl, Nat.zero_le _, rfl, Lib.hid (Good.start ss), HI⟩
  case round =>
    obtain ⟨k, outs, us, mv, rfl, hkl, hol, HG, HJ⟩ := hrel
    clear HI
    by_cases hx : k < ss.length
    · have hx' : (k : Int) < ss.length := by omega
      have x0 : (0 : Int) ≤ k := by omega
      obtain ⟨ad, rfl, c0⟩ := Kd.at_string HC.out (k : Int) x0 hx'
      have hnm : rdOf ByteArray.empty ss (k : Int) = ss.getD k ⟨#[]⟩ := by simp [rdOf, List.getD, hx]
      have hsz : (ss.getD k ⟨#[]⟩).size ≤ 20 := by
        have := HS.out _ (List.getElem_mem hx)
        simpa [List.getD, hx] using this
      rw [hnm, Int.toNat_natCast] at c0
      have c0 := (HJ.out.below.cell (by exact World.block_lt_of_cell? _ _ c0)).trans c0
      have hst := fun (out : ByteArray) (v : Nat) => HG.out.step (by omega) (out := out) (v := v)
      rw [hol] at hst
      generalize ss.getD k ⟨#[]⟩ = nm at *
      have HST := Lib.hid hst
      clear hst hnm
      have hul : us.length = k := HG.out.ulen.trans hol
      have hsz2 := HJ.out.size
      have hT := HT.out.below HJ.out.below h1
      have HK := Lib.hid (rename W.heap.size wr W.heap.size mv us nm HJ.out.rn hT h1 (Nat.le_refl _) (fun b hb => by have := HJ.out.mb b hb; omega) (by omega) (by omega) (by omega) HG.out.val)
      clear hT
      go_wp2_with (go_at_call 7; refine (HK.out).mono ?_)
      rintro e w1 ⟨out, v, mv', rfl, q1, q2, q3, q4, q5, q6⟩
      have HI1 := Lib.hid (HJ.out.call q5 q6)
      have HG1 := Lib.hid (HST.out out v q1 q2 q4)
      clear HK HST q1 q2 q3 q4 q5 q6 HJ HG c0
      have hs1 := HI1.out.size
      have hk63 : k + 1 ≤ maxLen := by unfold maxLen; omega
      go_wp2_with (at_builtin; refine wpList_append_own_at _ rfl (.tmp 16) (.tmp 19) 22 rfl (W.heap.size + 2) 9 i0 (.string ⟨#[]⟩) 1 16 Tryd.underlying22 hi hz0 hz1 hz2 rfl (by decide) _ k (cellsB outs) rfl (HI1.out.a.alloc _) ⟨w1.heap.size, 0, none⟩ 1 1 [.string out] rfl rfl (cell_one_new _ _ _) (by simp [Value.oneCell']) hk63 (by omega) (by simp; omega) ?_; intro v' w2 hown2 hgrow2 _ hloc2)
      have HI2 := Lib.hid (HI1.out.appA _ out hown2 hgrow2 hloc2)
      clear hown2 hgrow2 hloc2 HI1
      have hs2 := HI2.out.size
      have HK := Lib.hid (nextMini W.heap.size w2 (W.heap.size + 1) k HI2.out.m (HM.out.below HI2.out.below h1) h1 (by omega) (by omega) (by omega))
      go_wp2_with (go_at_call 8; refine (HK.out).mono ?_)
      rintro e w3 ⟨rfl, q1, q2, q3⟩
      have HI3 := Lib.hid (HI2.out.short q1 q2 q3)
      clear HK q1 q2 q3 HI2
      have hs3 := HI3.out.size
      go_wp2_with (at_builtin; refine wpList_append_own_at _ rfl (.tmp 21) (.tmp 23) 22 rfl (W.heap.size + 2) 9 i0 (.string ⟨#[]⟩) 1 16 Tryd.underlying22 hi hz0 hz1 hz2 rfl (by decide) _ k (cellsB (minis k)) rfl (HI3.out.b.alloc _) ⟨w3.heap.size, 0, none⟩ 1 1 [.string ⟨(mini k).toArray⟩] rfl rfl (cell_one_new _ _ _) (by simp [Value.oneCell']) hk63 (by omega) (by simp; omega) ?_; intro v'' w4 hown4 hgrow4 _ hloc4)
      have HI4 := Lib.hid (HI3.out.appB _ hown4 hgrow4 hloc4)
      clear hown4 hgrow4 hloc4 HI3
      have wx : IntKind.i64.wrap ((k : Int) + 1) = ((k + 1 : Nat) : Int) := by rw [IntKind.wrap_i64]; omega
      go_wp2_with (fail)
      go_roundw
      case rel => exact ⟨k + 1, outs ++ [out], (out, v) :: us, mv', by simp [wx], by omega, by simp [hol], HG1, HI4⟩
      case measure =>
        simp only [intOf]
        omega
    · have hx' : ¬ (k : Int) < ss.length := by omega
      obtain rfl : k = ss.length := by omega
      go_wp2_with (fail)
      go_ret2
      exact ⟨outs, us, u2, u3, rfl, hol, HG.out, RA.of_own HJ.out.a, RA.of_own HJ.out.b, HJ.out.below⟩
end Go.Proofs.YtgflhmihmdflcaaDoor.fnExportNames
