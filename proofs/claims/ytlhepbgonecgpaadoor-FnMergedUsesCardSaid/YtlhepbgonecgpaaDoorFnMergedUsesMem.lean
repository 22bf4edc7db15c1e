/-
  FnMergedUses: how symbols lie in memory, and the walks of SymbolMap.Get and Symbol.MergeContentsWith.
  Conditions: at most 200 symbols.
-/
import Derived.Test.YtlhepbgonecgpaaDoorFnMergedUsesPure
import Derived.Test.YtlhepbgonecgpaaDoorRows
import Derived.Test.YtlhepbgonecgpaaDoorPFnMergedUsesx1
import Derived.WalkKit
import Derived.WalkSmall
import Derived.BigQuiet
import Derived.Deep.RegionWith
import Derived.StillTailTactics
import Derived.Lib.Hide
import Derived.Lib.OthersKept
import Derived.Laws.Tables
import Derived.Laws.CopyOwn
import Derived.Laws.Rows
namespace Go.Proofs.YtlhepbgonecgpaaDoor.fnMergedUses
open Go.RowKit Go.Proofs.YtlhepbgonecgpaaDoorW.PrintWords Go.Proofs.YtlhepbgonecgpaaDoorW.PrintLast Go.Proofs.YtlhepbgonecgpaaDoorW.PrintMore Go.Proofs.YtlhepbgonecgpaaDoor.PFnMergedUses
set_option linter.unusedVariables false
set_option linter.unusedSimpArgs false

/-- a link's two cells -/
def lk0 : Option Nat → Int
  | none => 4294967295
  | some _ => 0
def lk1 : Option Nat → Int
  | none => 4294967295
  | some k => k
/-- a symbol's cells -/
def cellsS (s : Sy) : Array Value := #[.pointer none, .string s.nm, .int .u32 (lk0 s.link), .int .u32 (lk1 s.link), .int .u32 s.uses, .int .u32 0, .int .u32 0, .int .u16 s.fl, .int .u8 s.kd, .int .u8 0]
/-- a row of symbols -/
def Row (cs : Array Value) (L : List Sy) : Prop := L.length * 10 ≤ cs.size ∧ ∀ i s, L[i]? = some s → ∀ f, f < 10 → cs[i * 10 + f]? = (cellsS s)[f]?
/-- the table in memory -/
structure Tab (W : World) (SB B cap : Nat) (L : List Sy) : Prop where
  sb : W.heap[SB]? = some (.cells #[.slice (some ⟨B, 0, none⟩) L.length cap] 53 (0, 0))
  row : ∃ cs, W.heap[B]? = some (.cells cs 62 (0, 0)) ∧ Row cs L
  g0 : W.cell? ⟨0, 0, none⟩ = some (.int .u32 4294967295)
  g1 : W.cell? ⟨0, 1, none⟩ = some (.int .u32 4294967295)
  ne : SB ≠ B
  b0 : 0 < B
  n : L.length ≤ 200
/-- what a call leaves that writes the row alone -/
def Kp (B : Nat) (W W' : World) : Prop := KeepBut W W' B none ∧ Below B W W'
theorem Kp.refl (B : Nat) (W : World) : Kp B W W := ⟨KeepBut.refl _ _ _, Below.refl _ _⟩
theorem Kp.trans {B : Nat} {W W1 W2 : World} (h : Kp B W W1) (k : Kp B W1 W2) : Kp B W W2 := ⟨h.1.trans k.1 (.inl rfl), h.2.trans k.2⟩
theorem Kp.drewN {B : Nat} {W W1 : World} (h : Kp B W W1) (n : Nat) : Kp B W (W1.drewN n) := ⟨keep_drewN h.1 n, below_drewN h.2 n⟩
theorem Kp.of_below {B : Nat} {W W1 : World} (hb : B ≤ W.heap.size) (h : Below W.heap.size W W1) : Kp B W W1 := ⟨KeepBut.of_below h B none, h.mono hb⟩
theorem Kp.set {B : Nat} {W W1 : World} (h : Kp B W W1) (j : Nat) (u : Value) : Kp B W (W1.setCell ⟨B, j, none⟩ u) := ⟨h.1.set_ j u, h.2.setCell (Nat.le_refl _) u⟩
theorem Kp.size {B : Nat} {W W1 : World} (h : Kp B W W1) : W.heap.size ≤ W1.heap.size := h.1.1
theorem Kp.blk {B k : Nat} {W W1 : World} {o : Obj} (h : Kp B W W1) (hk : W.heap[k]? = some o) (hne : k ≠ B) : W1.heap[k]? = some o :=
  (h.1.2 k (Array.getElem?_eq_some_iff.1 hk).1 hne (by simp)).trans hk
/-- a store behind all that there was -/
theorem Kp.far {B k : Nat} {W W1 : World} (h : Kp B W W1) (hk : W.heap.size ≤ k) (hb : B ≤ k) (j : Nat) (u : Value) : Kp B W (W1.setCell ⟨k, j, none⟩ u) := ⟨keep_far h.1 (p := ⟨k, j, none⟩) hk u, h.2.setCell hb u⟩
section
variable {W W1 : World} {SB B cap : Nat} {L : List Sy}
theorem Tab.blt (h : Tab W SB B cap L) : B < W.heap.size := by obtain ⟨cs, hc, _⟩ := h.row; exact (Array.getElem?_eq_some_iff.1 hc).1
theorem Tab.slt (h : Tab W SB B cap L) : SB < W.heap.size := (Array.getElem?_eq_some_iff.1 h.sb).1
theorem cell_of {W W' : World} {k j : Nat} (h : W'.heap[k]? = W.heap[k]?) : W'.cell? ⟨k, j, none⟩ = W.cell? ⟨k, j, none⟩ := by simp [World.cell?, h]
/-- the table stays where its blocks stay -/
theorem Tab.keep (h : Tab W SB B cap L) (hb : Below W.heap.size W W1) : Tab W1 SB B cap L := by
  obtain ⟨cs, hc, hr⟩ := h.row
  have h0 : 0 < W.heap.size := by have := h.blt; omega
  exact ⟨(hb.block _ h.slt).trans h.sb, ⟨cs, (hb.block _ h.blt).trans hc, hr⟩, (cell_of (hb.block _ h0)).trans h.g0, (cell_of (hb.block _ h0)).trans h.g1, h.ne, h.b0, h.n⟩
theorem Tab.drewN (h : Tab W SB B cap L) (n : Nat) : Tab (W.drewN n) SB B cap L := ⟨h.sb, h.row, h.g0, h.g1, h.ne, h.b0, h.n⟩
theorem Tab.cell (h : Tab W SB B cap L) {i : Nat} {s : Sy} (hs : L[i]? = some s) {f : Nat} (hf : f < 10) : W.cell? ⟨B, i * 10 + f, none⟩ = (cellsS s)[f]? := by
  obtain ⟨cs, hc, hr⟩ := h.row
  rw [blk_cell hc, hr.2 i s hs f hf]
theorem Tab.fz (h : Tab W SB B cap L) (j : Nat) : W.frozen? ⟨B, j, none⟩ = false := by
  obtain ⟨cs, hc, hr⟩ := h.row
  exact Lib.frozen_of_heap hc j
/-- a store of one cell of a symbol -/
theorem Tab.set (h : Tab W SB B cap L) {i : Nat} {s : Sy} (hs : L[i]? = some s) {f : Nat} (hf : f < 10) (v : Value) (g : Sy → Sy) (hg : cellsS (g s) = (cellsS s).setIfInBounds f v) : Tab (W.setCell ⟨B, i * 10 + f, none⟩ v) SB B cap (L.modify i g) := by
  obtain ⟨cs, hc, hz, hr⟩ := h.row
  have hi : i < L.length := (List.getElem?_eq_some_iff.1 hs).1
  have hne := h.ne
  have hb0 := h.b0
  refine ⟨?_, ⟨cs.setIfInBounds (i * 10 + f) v, blk_put hc _ v rfl, by simpa using hz, ?_⟩, ?_, ?_, hne, hb0, by simpa using h.n⟩
  · rw [List.length_modify]
    exact (Below.heap_setCell W _ _ _ (by show SB ≠ B; exact hne)).trans h.sb
  · intro j t hj e he
    rw [mod_get] at hj
    rw [Array.getElem?_setIfInBounds]
    by_cases hij : i = j
    · subst hij
      rw [if_pos rfl, hs] at hj
      obtain rfl : g s = t := by simpa using hj
      rw [hg, Array.getElem?_setIfInBounds]
      by_cases hfe : f = e
      · subst hfe
        rw [if_pos rfl, if_pos rfl, if_pos (by omega), if_pos (by show f < 10; exact hf)]
      · rw [if_neg (by omega), if_neg hfe]
        exact hr i s hs e he
    · rw [if_neg hij] at hj
      have hj' : L[j]? = some t := by simpa using hj
      rw [if_neg (by omega)]
      exact hr j t hj' e he
  · exact (cell_of (Below.heap_setCell W _ _ _ (by show 0 ≠ B; omega))).trans h.g0
  · exact (cell_of (Below.heap_setCell W _ _ _ (by show 0 ≠ B; omega))).trans h.g1
/-- a store of a link's two cells -/
theorem Tab.setLink (h : Tab W SB B cap L) {i k : Nat} (hi : i < L.length) : Tab ((W.setCell ⟨B, i * 10 + 2, none⟩ (.int .u32 0)).setCell ⟨B, i * 10 + 3, none⟩ (.int .u32 k)) SB B cap (setL L i k) := by
  obtain ⟨cs, hc, hz, hr⟩ := h.row
  have hs : L[i]? = some L[i] := List.getElem?_eq_getElem hi
  have hne := h.ne
  have hb0 := h.b0
  have far : ∀ k', k' ≠ B → ((W.setCell ⟨B, i * 10 + 2, none⟩ (.int .u32 0)).setCell ⟨B, i * 10 + 3, none⟩ (.int .u32 k)).heap[k']? = W.heap[k']? := fun k' hk => (Below.heap_setCell _ _ _ _ (by show k' ≠ B; exact hk)).trans (Below.heap_setCell W _ _ _ (by show k' ≠ B; exact hk))
  refine ⟨?_, ⟨(cs.setIfInBounds (i * 10 + 2) (.int .u32 0)).setIfInBounds (i * 10 + 3) (.int .u32 k), blk_put (blk_put hc _ _ rfl) _ _ rfl, by rw [setL_len]; simpa using hz, ?_⟩, (cell_of (far 0 (by omega))).trans h.g0, (cell_of (far 0 (by omega))).trans h.g1, hne, hb0, by rw [setL_len]; exact h.n⟩
  · rw [setL_len]
    exact (far SB hne).trans h.sb
  · intro j t hj e he
    unfold setL at hj
    rw [mod_get] at hj
    rw [Array.getElem?_setIfInBounds, Array.getElem?_setIfInBounds]
    by_cases hij : i = j
    · subst hij
      rw [if_pos rfl, hs] at hj
      obtain rfl : ({ L[i] with link := some k } : Sy) = t := by simpa using hj
      have hbase := hr i _ hs
      by_cases h3 : e = 3
      · subst h3
        rw [if_pos rfl, if_pos (by simp; omega)]
        rfl
      · by_cases h2 : e = 2
        · subst h2
          rw [if_neg (by omega), if_pos rfl, if_pos (by omega)]
          rfl
        · rw [if_neg (by omega), if_neg (by omega), hbase e he]
          match e, he, h2, h3 with
          | 0, _, _, _ => rfl
          | 1, _, _, _ => rfl
          | 4, _, _, _ => rfl
          | 5, _, _, _ => rfl
          | 6, _, _, _ => rfl
          | 7, _, _, _ => rfl
          | 8, _, _, _ => rfl
          | 9, _, _, _ => rfl
    · rw [if_neg hij] at hj
      have hj' : L[j]? = some t := by simpa using hj
      rw [if_neg (by omega), if_neg (by omega)]
      exact hr j t hj' e he
end
set_option maxHeartbeats 8000000 in
set_option maxRecDepth 100000 in
theorem get (W : World) (SB B cap i : Nat) (L : List Sy) (ht : Tab W SB B cap L) (hi : i < L.length) :
    Calls Tryd.prog 23 #[.agg #[.slice (some ⟨SB, 0, none⟩) 1 1], .agg #[.int .u32 0, .int .u32 i]] W fun e w' => e = .returned (.pointer (some ⟨B, i * 10, none⟩)) ∧ Below W.heap.size W w' := by
  have hb : Below W.heap.size W ((W.alloc (.cells #[.slice (some ⟨SB, 0, none⟩) 1 1] 46)).alloc (.cells #[.int .u32 0, .int .u32 i] 49)) := ((Below.refl _ _).alloc (Nat.le_refl _) _).alloc (by simp) _
  have ht2 := ht.keep hb
  have hsb : ((W.alloc (.cells #[.slice (some ⟨SB, 0, none⟩) 1 1] 46)).alloc (.cells #[.int .u32 0, .int .u32 i] 49)).cell? ⟨SB, 0, none⟩ = some (.slice (some ⟨B, 0, none⟩) L.length cap) := blk_cell ht2.sb 0
  have hn := ht.n
  have i0 : (0 : Int) ≤ i := by omega
  have i1 : (i : Int) < L.length := by omega
  have i2 : (i : Int) ≤ 200 := by omega
  have HB := Lib.hid hb
  clear hb ht2 ht
  go_enter Tryd.func23, Tryd.ntmps23
  go_wp2_with (fail)
  go_quiet (fail)
  go_wp2_with (fail)
  go_ret
  exact ⟨rfl, below_drewN HB.out _⟩
/-- what a merge of the contents leaves -/
def Cont (W : World) (SB B cap i j : Nat) (L : List Sy) (e : Ending) (w' : World) : Prop := e = .returned (.tuple #[]) ∧ ∃ f : Sy → Sy, (∀ s, (f s).link = s.link) ∧ (∀ s, L[j]? = some s → (f s).uses = w32 (s.uses + us L i)) ∧ Tab w' SB B cap (setC L j f) ∧ Kp B W w'
/-- on the way -/
structure Gs (W0 W : World) (SB B cap j : Nat) (L : List Sy) (u : Int) (f : Sy → Sy) : Prop where
  tab : Tab W SB B cap (setC L j f)
  kp : Kp B W0 W
  lnk : ∀ s, (f s).link = s.link
  us : ∀ s, (f s).uses = u
section
variable {W0 W : World} {SB B cap i j : Nat} {L : List Sy} {u : Int} {f : Sy → Sy} {si sj : Sy}
theorem Gs.drewN (h : Gs W0 W SB B cap j L u f) (n : Nat) : Gs W0 (W.drewN n) SB B cap j L u f := ⟨h.tab.drewN n, h.kp.drewN n, h.lnk, h.us⟩
theorem setC_get (hj : L[j]? = some sj) : (setC L j f)[j]? = some (f sj) := by unfold setC; rw [mod_get, if_pos rfl, hj]; rfl
theorem Gs.new (h : Gs W0 W SB B cap j L u f) (hj : L[j]? = some sj) (e : Nat) (he : e < 10) : W.cell? ⟨B, j * 10 + e, none⟩ = (cellsS (f sj))[e]? := h.tab.cell (setC_get hj) he
theorem Gs.old (h : Gs W0 W SB B cap j L u f) (hi : L[i]? = some si) (hne : i ≠ j) (e : Nat) (he : e < 10) : W.cell? ⟨B, i * 10 + e, none⟩ = (cellsS si)[e]? := h.tab.cell (by unfold setC; rw [mod_get, if_neg (fun e => hne e.symm)]; exact hi) he
theorem setC_setC (f g : Sy → Sy) : (setC L j f).modify j g = setC L j (fun s => g (f s)) := by
  unfold setC
  apply List.ext_getElem?
  intro x
  rw [mod_get, mod_get, mod_get]
  by_cases h : j = x
  · rw [if_pos h, if_pos h, if_pos h]
    cases L[x]? <;> rfl
  · rw [if_neg h, if_neg h, if_neg h]
theorem Gs.set (h : Gs W0 W SB B cap j L u f) (hj : L[j]? = some sj) {e : Nat} (he : e < 10) (v : Value) (g : Sy → Sy) (g1 : ∀ s, (g s).link = s.link) (g2 : ∀ s, (g s).uses = s.uses) (hg : cellsS (g (f sj)) = (cellsS (f sj)).setIfInBounds e v) : Gs W0 (W.setCell ⟨B, j * 10 + e, none⟩ v) SB B cap j L u (fun s => g (f s)) := by
  have := h.tab.set (setC_get hj) he v g hg
  rw [setC_setC] at this
  exact ⟨this, h.kp.set _ _, fun s => (g1 _).trans (h.lnk s), fun s => (g2 _).trans (h.us s)⟩
theorem Gs.done (h : Gs W0 W SB B cap j L u f) (hj : L[j]? = some sj) (hu : u = w32 (sj.uses + fnMergedUses.us L i)) : Cont W0 SB B cap i j L (.returned (.tuple #[])) W :=
  ⟨rfl, f, h.lnk, fun s hs => by rw [hj] at hs; obtain rfl := Option.some.inj hs; rw [h.us, hu], h.tab, h.kp⟩
end
theorem hasC (a m : Int) (w : World) : Calls Tryd.prog 25 #[.int .u16 a, .int .u16 m] w fun e w' => e = .returned (.bool ((Go.bits .and .u16 a m) != 0)) ∧ ∃ n, w' = w.drewN n :=
  (ast_SymbolFlags_Has.calls a m _ w rfl).mono fun e w' ⟨he, n, hw⟩ => ⟨he, n, hw⟩
set_option maxHeartbeats 16000000 in
set_option maxRecDepth 100000 in
theorem contents (W : World) (SB B cap i j : Nat) (L : List Sy) (ht : Tab W SB B cap L) (si sj : Sy) (hi : L[i]? = some si) (hj : L[j]? = some sj) (hne : i ≠ j) :
    Calls Tryd.prog 24 #[.pointer (some ⟨B, j * 10, none⟩), .pointer (some ⟨B, i * 10, none⟩)] W (Cont W SB B cap i j L) := by
  have a4 : W.cell? ⟨B, i * 10 + 4, none⟩ = some (.int .u32 si.uses) := ht.cell hi (by decide)
  have b4 : W.cell? ⟨B, j * 10 + 4, none⟩ = some (.int .u32 sj.uses) := ht.cell hj (by decide)
  have hu : us L i = si.uses := by unfold us; rw [hi]; rfl
  have h1 := ht.drewN 1
  have h1' : Tab W.drew SB B cap L := h1
  have k1 : Kp B W W.drew := (Kp.refl B W).drewN 1
  have HT := Lib.hid h1'
  have HK := Lib.hid k1
  have HU : Hid (IntKind.u32.wrap (sj.uses + si.uses) = w32 (sj.uses + us L i)) := Lib.hid (by rw [hu, IntKind.wrap_u32]; rfl)
  clear ht h1 h1' k1 hu
  go_enter Tryd.func24, Tryd.ntmps24
  go_wp2_with (fail)
  go_still_tail 11, (by kernel_rfl)
  generalize hu : IntKind.u32.wrap (sj.uses + si.uses) = u at HU ⊢
  clear hu
  change wpList _ _ _ _ _ W.drew
  generalize W.drew = W1 at HT HK ⊢
  clear a4 b4
  have b4 : W1.cell? ⟨B, j * 10 + 4, none⟩ = some (.int .u32 sj.uses) := HT.out.cell hj (by decide)
  have z4 := HT.out.fz (j * 10 + 4)
  have hg : Gs W (W1.setCell ⟨B, j * 10 + 4, none⟩ (.int .u32 u)) SB B cap j L u (fun s => { s with uses := u }) := ⟨HT.out.set hj (by decide : 4 < 10) _ _ rfl, HK.out.set _ _, fun _ => rfl, fun _ => rfl⟩
  have HG0 := Lib.hid hg
  clear hg HK
  have key : ∀ W2, Gs W W2 SB B cap j L u (fun s => { s with uses := u }) → W2.cell? ⟨B, i * 10 + 7, none⟩ = some (.int .u16 si.fl) ∧ W2.cell? ⟨B, j * 10 + 7, none⟩ = some (.int .u16 sj.fl) := fun W2 h => ⟨h.old hi hne 7 (by decide), h.new hj 7 (by decide)⟩
  obtain ⟨x7, y7⟩ := key _ HG0.out
  have KEY := Lib.hid key
  clear key
  go_wp2_with (fail)
  have HG := HG0
  clear HG0
  generalize W1.setCell ⟨B, j * 10 + 4, none⟩ (.int .u32 u) = W2 at HG x7 y7 ⊢
  clear b4 z4 HT
  refine (hasC si.fl 1 _).mono ?_
  rintro e w9 ⟨rfl, n9, rfl⟩
  have hx := HG.out.drewN n9
  generalize W2.drewN n9 = W3 at hx ⊢
  have HG := Lib.hid hx
  clear hx
  generalize (Go.bits .and .u16 si.fl 1 != 0) = t1
  clear x7 y7
  cases t1
  · skip
    have x7 : W3.cell? ⟨B, i * 10 + 7, none⟩ = some (.int .u16 si.fl) := HG.out.old hi hne 7 (by decide)
    go_wp2_with (fail)
    refine (hasC si.fl 2 _).mono ?_
    rintro e w9 ⟨rfl, n9, rfl⟩
    have hx := HG.out.drewN n9
    generalize W3.drewN n9 = W3a at hx ⊢
    have HG := Lib.hid hx
    clear hx
    generalize (Go.bits .and .u16 si.fl 2 != 0) = t3
    clear x7
    cases t3
    · go_wp2_with (fail)
      first | go_end0 | ((try simp only [Exit.inBlock, Exit.then]); refine bodyPost_ret (results_none rfl _ _ _) rfl ?_)
      exact HG.out.done hj HU.out
    · obtain ⟨fl, hfl⟩ : ∃ fl, W3a.cell? ⟨B, j * 10 + 7, none⟩ = some (.int .u16 fl) := ⟨_, HG.out.new hj 7 (by decide)⟩
      have hg2 : Gs W (W3a.setCell ⟨B, j * 10 + 7, none⟩ (.int .u16 (Go.bits .or .u16 fl 2))) SB B cap j L u _ := HG.out.set hj (by decide : 7 < 10) (.int .u16 (Go.bits .or .u16 fl 2)) (fun s => { s with fl := Go.bits .or .u16 fl 2 }) (fun s => rfl) (fun s => rfl) rfl
      have z7 := HG.out.tab.fz (j * 10 + 7)
      clear HG
      have HG := Lib.hid hg2
      clear hg2
      go_wp2_with (fail)
      first | go_end0 | ((try simp only [Exit.inBlock, Exit.then]); refine bodyPost_ret (results_none rfl _ _ _) rfl ?_)
      exact HG.out.done hj HU.out
  · have y7 : W3.cell? ⟨B, j * 10 + 7, none⟩ = some (.int .u16 sj.fl) := (KEY.out _ HG.out).2
    go_wp2_with (fail)
    refine (hasC sj.fl 1 _).mono ?_
    rintro e w9 ⟨rfl, n9, rfl⟩
    have hx := HG.out.drewN n9
    generalize W3.drewN n9 = W4 at hx ⊢
    have HG := Lib.hid hx
    clear hx
    generalize (Go.bits .and .u16 sj.fl 1 != 0) = t2
    clear y7
    cases t2
    · have x1 : W4.cell? ⟨B, i * 10 + 1, none⟩ = some (.string si.nm) := HG.out.old hi hne 1 (by decide)
      obtain ⟨nm0, hnm0⟩ : ∃ nm0, W4.cell? ⟨B, j * 10 + 1, none⟩ = some (.string nm0) := ⟨_, HG.out.new hj 1 (by decide)⟩
      have z1 := HG.out.tab.fz (j * 10 + 1)
      have hg2 : Gs W (W4.setCell ⟨B, j * 10 + 1, none⟩ (.string si.nm)) SB B cap j L u _ := HG.out.set hj (by decide : 1 < 10) (.string si.nm) (fun s => { s with nm := si.nm }) (fun s => rfl) (fun s => rfl) rfl
      obtain ⟨fl0, hfl0⟩ : ∃ fl, (W4.setCell ⟨B, j * 10 + 1, none⟩ (.string si.nm)).cell? ⟨B, j * 10 + 7, none⟩ = some (.int .u16 fl) := ⟨_, hg2.new hj 7 (by decide)⟩
      have z7 := hg2.tab.fz (j * 10 + 7)
      have hg3 : Gs W ((W4.setCell ⟨B, j * 10 + 1, none⟩ (.string si.nm)).setCell ⟨B, j * 10 + 7, none⟩ (.int .u16 (Go.bits .or .u16 fl0 1))) SB B cap j L u _ := hg2.set hj (by decide : 7 < 10) (.int .u16 (Go.bits .or .u16 fl0 1)) (fun s => { s with fl := Go.bits .or .u16 fl0 1 }) (fun s => rfl) (fun s => rfl) rfl
      have x7 : ((W4.setCell ⟨B, j * 10 + 1, none⟩ (.string si.nm)).setCell ⟨B, j * 10 + 7, none⟩ (.int .u16 (Go.bits .or .u16 fl0 1))).cell? ⟨B, i * 10 + 7, none⟩ = some (.int .u16 si.fl) := hg3.old hi hne 7 (by decide)
      have HG2 := Lib.hid hg3
      clear HG hg2 hg3
      have HG := HG2
      clear HG2
      go_wp2_with (fail)
      generalize ((W4.setCell ⟨B, j * 10 + 1, none⟩ (.string si.nm)).setCell ⟨B, j * 10 + 7, none⟩ (.int .u16 (Go.bits .or .u16 fl0 1))) = W5 at HG ⊢
      clear x1 hnm0 z1 hfl0 z7
      refine (hasC si.fl 2 _).mono ?_
      rintro e w9 ⟨rfl, n9, rfl⟩
      have hx := HG.out.drewN n9
      generalize W5.drewN n9 = W5a at hx ⊢
      have HG := Lib.hid hx
      clear hx
      generalize (Go.bits .and .u16 si.fl 2 != 0) = t3
      clear x7
      cases t3
      · go_wp2_with (fail)
        first | go_end0 | ((try simp only [Exit.inBlock, Exit.then]); refine bodyPost_ret (results_none rfl _ _ _) rfl ?_)
        exact HG.out.done hj HU.out
      · obtain ⟨fl, hfl⟩ : ∃ fl, W5a.cell? ⟨B, j * 10 + 7, none⟩ = some (.int .u16 fl) := ⟨_, HG.out.new hj 7 (by decide)⟩
        have hg2 : Gs W (W5a.setCell ⟨B, j * 10 + 7, none⟩ (.int .u16 (Go.bits .or .u16 fl 2))) SB B cap j L u _ := HG.out.set hj (by decide : 7 < 10) (.int .u16 (Go.bits .or .u16 fl 2)) (fun s => { s with fl := Go.bits .or .u16 fl 2 }) (fun s => rfl) (fun s => rfl) rfl
        have z7 := HG.out.tab.fz (j * 10 + 7)
        clear HG
        have HG := Lib.hid hg2
        clear hg2
        go_wp2_with (fail)
        first | go_end0 | ((try simp only [Exit.inBlock, Exit.then]); refine bodyPost_ret (results_none rfl _ _ _) rfl ?_)
        exact HG.out.done hj HU.out
    · skip
      have x7 : W4.cell? ⟨B, i * 10 + 7, none⟩ = some (.int .u16 si.fl) := HG.out.old hi hne 7 (by decide)
      go_wp2_with (fail)
      refine (hasC si.fl 2 _).mono ?_
      rintro e w9 ⟨rfl, n9, rfl⟩
      have hx := HG.out.drewN n9
      generalize W4.drewN n9 = W4a at hx ⊢
      have HG := Lib.hid hx
      clear hx
      generalize (Go.bits .and .u16 si.fl 2 != 0) = t3
      clear x7
      cases t3
      · go_wp2_with (fail)
        first | go_end0 | ((try simp only [Exit.inBlock, Exit.then]); refine bodyPost_ret (results_none rfl _ _ _) rfl ?_)
        exact HG.out.done hj HU.out
      · obtain ⟨fl, hfl⟩ : ∃ fl, W4a.cell? ⟨B, j * 10 + 7, none⟩ = some (.int .u16 fl) := ⟨_, HG.out.new hj 7 (by decide)⟩
        have hg2 : Gs W (W4a.setCell ⟨B, j * 10 + 7, none⟩ (.int .u16 (Go.bits .or .u16 fl 2))) SB B cap j L u _ := HG.out.set hj (by decide : 7 < 10) (.int .u16 (Go.bits .or .u16 fl 2)) (fun s => { s with fl := Go.bits .or .u16 fl 2 }) (fun s => rfl) (fun s => rfl) rfl
        have z7 := HG.out.tab.fz (j * 10 + 7)
        clear HG
        have HG := Lib.hid hg2
        clear hg2
        go_wp2_with (fail)
        first | go_end0 | ((try simp only [Exit.inBlock, Exit.then]); refine bodyPost_ret (results_none rfl _ _ _) rfl ?_)
        exact HG.out.done hj HU.out
end Go.Proofs.YtlhepbgonecgpaaDoor.fnMergedUses
