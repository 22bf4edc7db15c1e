/-
  FnFinalize: the law's walk: it answers true.
  Conditions: none.
-/
import Derived.Test.YtdhaifcjhmmdlaaFnFinalizeFits
import Derived.Test.YtdhaifcjhmmdlaaFnFinalizeMaps
import Derived.Test.YtdhaifcjhmmdlaaFnFinalizeSame
import Derived.Laws.AppendOwnNone
namespace Go.Proofs.Ytdhaifcjhmmdlaa.fnFinalize
open Go.RowKit Go.Proofs.YtdhaifcjhmmdlaaW.PrintWords Go.Proofs.YtdhaifcjhmmdlaaW.PrintLast Go.Proofs.YtdhaifcjhmmdlaaW.PrintMore Go.Proofs.Ytdhaifcjhmmdlaa.PFnFinalize
set_option linter.unusedVariables false
set_option linter.unusedSimpArgs false

theorem flat_get {α β : Type} (f : α → List β) (c : Nat) (hc : ∀ x, (f x).length = c) : ∀ (l : List α) (i k : Nat) (hi : i < l.length), k < c → (l.flatMap f)[i * c + k]? = (f l[i])[k]? := by
  intro l
  induction l with
  | nil => intro i k hi; simp at hi
  | cons x r ih =>
    intro i k hi hk
    cases i with
    | zero =>
      rw [List.flatMap_cons, List.getElem?_append_left (by rw [hc]; omega)]
      simp
    | succ i =>
      rw [List.flatMap_cons, List.getElem?_append_right (by rw [hc, Nat.succ_mul]; omega), hc]
      have := ih i k (by simpa using hi) hk
      rw [show (i + 1) * c + k - c = i * c + k by rw [Nat.succ_mul]; omega, this]
      simp
theorem flat_len {α β : Type} (f : α → List β) (c : Nat) (hc : ∀ x, (f x).length = c) : ∀ (l : List α), (l.flatMap f).length = l.length * c := by
  intro l
  induction l with
  | nil => simp
  | cons x r ih => rw [List.flatMap_cons, List.length_append, ih, hc, List.length_cons, Nat.succ_mul]; omega
def ycells (y : S27) : List Value := mcells (mp y)
theorem ycells_len (y : S27) : (ycells y).length = 6 := rfl
theorem one_y (L : List S27) : ∀ u ∈ L.flatMap ycells, u.oneCell' = true := by
  intro u hu
  obtain ⟨y, _, hy⟩ := List.mem_flatMap.1 hu
  unfold ycells mcells at hy
  simp only [List.mem_cons, List.not_mem_nil, or_false] at hy
  rcases hy with rfl | rfl | rfl | rfl | rfl | rfl <;> rfl
theorem wp_copy {w : World} {ops : Array Oper} {rest : List Oper} {o : Oper} {a : Act} {Q : Exit → Act → World → Prop} (hgd : o.guard = none) (s x : Operand)
    (ho : o.op = .call { callee := .builtin .append, args := #[s, x], argTypes := #[22, 22] })
    (base : Nat) (v : Value) (hs : a.eval s = v) (hown : w.ownsRow base 27 6 v 0 [])
    (A : Option Addr) (c : Nat) (xs : List S27) (hx : a.eval x = .slice A xs.length c) (hnil : A = none → xs = [] ∧ c = 0) (hC : Kd.C k27 w A xs.length xs) (hl : xs.length ≤ 1000) (hbase : base ≤ w.heap.size)
    (h : ∀ v' w', w'.ownsRow base 27 6 v' xs.length (xs.flatMap ycells) → w.grownBy w' v.ownBlock → wpList Try.prog ops Q rest (a.put o.dst v') w') : wpList Try.prog ops Q (o :: rest) a w := by
  obtain ⟨i0, hi, hz0, hz1, hz2⟩ := info_parts info27
  cases A with
  | none =>
    obtain ⟨rfl, rfl⟩ := hnil rfl
    exact wpList_append_own_none hgd s x 22 ho base 27 i0 6 Try.underlying22 hi v 0 [] hs hown hx (h v w hown (World.grownBy.refl _ _))
  | some ad =>
    refine wpList_append_own w hgd s x 22 ho base 27 i0 (.agg #[.int .i64 0, .int .i64 0, .int .i64 0, .int .i64 0, .int .i64 0, .int .i64 0]) 6 48 Try.underlying22 hi hz0 hz1 hz2 rfl (by decide) v 0 [] hs hown ad xs.length c (xs.flatMap ycells) hx (flat_len ycells 6 ycells_len xs) ?_ (one_y xs) (by unfold maxLen; omega) (by omega) hbase ?_
    · intro q u hu
      have hq : q < xs.length * 6 := by
        have := (List.getElem?_eq_some_iff.1 hu).1
        rwa [flat_len ycells 6 ycells_len] at this
      have e : q = q / 6 * 6 + q % 6 := by omega
      have hj : q / 6 < xs.length := by omega
      rw [e, flat_get ycells 6 ycells_len xs (q / 6) (q % 6) hj (by omega)] at hu
      obtain ⟨ad', e2, hc⟩ := hC.2.2 (by omega)
      obtain rfl : ad = ad' := Option.some.inj e2
      obtain ⟨cs, hlen, hK, hcell⟩ := hc (q / 6) _ (List.getElem?_eq_getElem hj)
      obtain rfl := k27_open hK
      rw [e]
      exact hcell (q % 6) u hu
    · intro v' w' h1 h2 _
      exact h v' w' (by simpa using h1) h2
theorem own_set {w : World} {base e sz n g cap : Nat} {xs : List Value} (h : w.ownsRow base e sz (.slice (some ⟨g, 0, none⟩) n cap) n xs) (j : Nat) (hj : j < n * sz) (u : Value) : (w.setCell ⟨g, j, none⟩ u).ownsRow base e sz (.slice (some ⟨g, 0, none⟩) n cap) n (xs.set j u) := by
  refine ⟨by rw [List.length_set]; exact h.1, ?_⟩
  rcases h.2 with ⟨e1, _⟩ | ⟨g', cap', cur, e1, h1, h2, h3, h4, h5, h6⟩
  · cases e1
  · cases e1
    refine .inr ⟨g, cap, cur.setIfInBounds j u, rfl, h1, blk_put h2 j u rfl, h3, h4, by simpa using h5, ?_⟩
    rw [← h6, Array.toList_setIfInBounds, List.take_set]
theorem flat_set {α β : Type} (f : α → List β) (c : Nat) (hc : ∀ x, (f x).length = c) : ∀ (l : List α) (i k : Nat) (hi : i < l.length) (x : α) (u : β), k < c → f x = (f l[i]).set k u → (l.flatMap f).set (i * c + k) u = (l.set i x).flatMap f := by
  intro l
  induction l with
  | nil => intro i k hi; simp at hi
  | cons y r ih =>
    intro i k hi x u hk hx
    cases i with
    | zero =>
      rw [List.flatMap_cons, List.set_cons_zero, List.flatMap_cons, Nat.zero_mul, Nat.zero_add, List.set_append_left _ _ (by rw [hc]; exact hk)]
      rw [hx]
      rfl
    | succ i =>
      rw [List.flatMap_cons, List.set_cons_succ, List.flatMap_cons, List.set_append_right _ _ (by rw [hc, Nat.succ_mul]; omega), hc]
      rw [show (i + 1) * c + k - c = i * c + k by rw [Nat.succ_mul]; omega, ih i k (by simpa using hi) x u hk hx]
/-- the mappings of which the first i are moved -/
def want (SH : List Sh) (L : List S27) (i : Nat) : List Mp := ((L.take i).map fun y => moved SH (mp y)) ++ (L.drop i).map mp
theorem want_zero (SH : List Sh) (L : List S27) : (want SH L 0).flatMap mcells = L.flatMap ycells := by
  unfold want
  rw [List.take_zero, List.map_nil, List.nil_append, List.drop_zero, List.flatMap_map]
  rfl
theorem want_all (SH : List Sh) (L : List S27) : want SH L L.length = (L.map mp).map (moved SH) := by
  unfold want
  rw [List.take_length, List.drop_length, List.map_nil, List.append_nil, List.map_map]
  rfl
theorem want_len (SH : List Sh) (L : List S27) (i : Nat) (hi : i ≤ L.length) : (want SH L i).length = L.length := by
  unfold want
  simp
  omega
theorem want_at (SH : List Sh) (L : List S27) (i : Nat) (hi : i < L.length) : (want SH L i)[i]? = some (mp L[i]) := by
  unfold want
  have hl : ((L.take i).map fun y => moved SH (mp y)).length = i := by simp; omega
  rw [List.getElem?_append_right (by rw [hl]; exact Nat.le_refl _), hl, Nat.sub_self]
  simp [hi]
theorem want_set (SH : List Sh) (L : List S27) (i : Nat) (hi : i < L.length) : (want SH L i).set i (moved SH (mp L[i])) = want SH L (i + 1) := by
  unfold want
  have e : L.drop i = L[i] :: L.drop (i + 1) := List.drop_eq_getElem_cons hi
  have e2 : L.take (i + 1) = L.take i ++ [L[i]] := List.take_succ_eq_append_getElem hi
  have hl : ((L.take i).map fun y => moved SH (mp y)).length = i := by simp; omega
  rw [e, e2, List.map_cons, List.map_append, List.set_append_right _ _ (by rw [hl]; exact Nat.le_refl _), hl, Nat.sub_self, List.set_cons_zero]
  simp
theorem bs_extract (l : List UInt8) (i j : Nat) : (bs l).extract i j = bs ((l.drop i).take (j - i)) := by
  apply ByteArray.ext
  apply Array.toList_inj.1
  simp [bs]
theorem ext_a (P F S : List UInt8) : (bs (P ++ F ++ S)).extract 0 P.length = bs P := by
  rw [bs_extract]
  simp
theorem ext_b (P F S : List UInt8) : (bs (P ++ F ++ S)).extract (P.length + F.length) (P ++ F ++ S).length = bs S := by
  rw [bs_extract]
  congr 1
  have e : (P ++ F ++ S).drop (P.length + F.length) = S := by rw [← List.length_append, List.drop_left]
  rw [e]
  have : (P ++ F ++ S).length - (P.length + F.length) = S.length := by simp; omega
  rw [this, List.take_length]
theorem ext_c (P F S : List UInt8) : (bs (P ++ F ++ S)).extract P.length (P.length + F.length) = bs F := by
  rw [bs_extract, Nat.add_sub_cancel_left, List.append_assoc, List.drop_left, List.take_left]
/-- what the law's guards let by -/
structure Let (P S : List UInt8) (L : List S27) (SH : List Sh) : Prop where
  p : P.length ≤ 1000
  s : S.length ≤ 1000
  n : L.length ≤ 1000
  fm : Fm L
  so : Sorted L
  seen : SH.length ≤ 100 ∧ (∃ s t, SH = s :: t ∧ s = z0) ∧ Seen SH SH.length
set_option maxHeartbeats 16000000 in
set_option maxRecDepth 100000 in
theorem law (W : World) (P S : List UInt8) (vsh : Value) (A0 : Option Addr) (c0 : Nat) (L : List S27) (SH : List Sh) (hL : Kd.C k27 W A0 L.length L) (hc0 : L.length ≤ c0) (hsh : SH ≠ [] → Sl W W.heap.size vsh SH) (h0 : SH = [] → ∃ A c, vsh = .slice A 0 c) (hl : SH.length ≤ 9223372036854775807)
    (hr : ∀ i, i < L.length → -9223372036854775808 ≤ (L.getD i z27).f5 ∧ (L.getD i z27).f5 ≤ 9223372036854775807) (hSv : ∃ A c, vsh = .slice A SH.length c) (hnil : A0 = none → L = [] ∧ c0 = 0) :
    Calls Try.prog 3 #[.string (bs P), .slice A0 L.length c0, .string (bs S), vsh] W fun e w' => e = .returned (.bool true) ∧ Below W.heap.size W w' := by
  have hP : (bs P).size = P.length := bs_size P
  have hS : (bs S).size = S.length := bs_size S
  obtain ⟨Ash, csh, rfl⟩ := hSv
  have HL := Lib.hid hL
  have HSH := Lib.hid (⟨hsh, h0, hl⟩ : _ ∧ _ ∧ _)
  have HR := Lib.hid hr
  clear hL hsh h0 hl hr
  go_enter Try.func3, Try.ntmps3
  go_upto_region 1 with (fail)
  go_cut [37] from 20 to 36 (fun v37 wd => ∃ b, v37 = .bool b ∧ wd = W)
  case first =>
    go_wp2_with (fail)
    all_goals
      go_meet
      case rel => exact ⟨_, rfl, rfl⟩
  case rest =>
  obtain ⟨b1, rfl, rfl⟩ := hcut
  cases b1 with
  | true =>
    go_wp2_with (fail)
    go_ret
    exact ⟨rfl, Below.refl _ _⟩
  | false =>
  go_upto_region 3 with (fail)
  go_cut [61] from 38 to 60 (fun v61 wd => ∃ b, v61 = .bool b ∧ Hid (b = false → Let P S L SH) ∧ Hid (Below wc.heap.size wc wd))
  case first =>
    by_cases h1 : P.length ≤ 1000
    · by_cases h2 : S.length ≤ 1000
      · by_cases h3 : L.length ≤ 1000
        · have e1 : decide ((1000 : Int) < (P.length : Int)) = false := decide_eq_false (by omega)
          have e2 : decide ((1000 : Int) < (S.length : Int)) = false := decide_eq_false (by omega)
          have e3 : decide ((1000 : Int) < (L.length : Int)) = false := decide_eq_false (by omega)
          obtain ⟨k, r, hf, hfr⟩ := fits2_f L h3 HR.out
          have HF := Lib.hid hf
          have HFR := Lib.hid hfr
          have HH := Lib.hid (⟨h1, h2, h3⟩ : _ ∧ _ ∧ _)
          clear h1 h2 h3 hf hfr
          go_wp2_with (fail)
          refine (spec_MapsFit.calls k A0 c0 L r wc HL.out hc0 HF.out).mono ?_
          rintro e w1 ⟨rfl, hb1⟩
          have HB1 := Lib.hid hb1
          clear hb1
          cases r with
          | false =>
            go_wp2_with (fail)
            go_meet
            case rel => exact ⟨_, rfl, Lib.hid (fun h => absurd h (by simp)), HB1⟩
          | true =>
            go_wp2_with (fail)
            refine (shiftsFit w1 (.bool true) (.slice Ash SH.length csh) A0 c0 L SH (Kd.C_below HL.out HB1.out) hc0 (fun h => by
              obtain ⟨g, o, cap, e, q1, q2, q3⟩ := (HSH.out.1 h).below HB1.out
              exact ⟨g, o, cap, e, q1, Nat.lt_of_lt_of_le q2 HB1.out.size, q3⟩) HSH.out.2.1 HSH.out.2.2).mono ?_
            rintro e w2 hfp
            obtain ⟨r, rfl, hrr, hb2⟩ : Fp w1 SH e w2 := hfp
            have HRR := Lib.hid hrr
            have HB2 := Lib.hid (HB1.out.trans (hb2.mono HB1.out.size))
            clear hrr hb2
            cases r with
            | false =>
              go_wp2_with (fail)
              go_meet
              case rel => exact ⟨_, rfl, Lib.hid (fun h => absurd h (by simp)), HB2⟩
            | true =>
              go_wp2_with (fail)
              go_meet
              case rel => exact ⟨_, rfl, Lib.hid (fun _ => ⟨HH.out.1, HH.out.2.1, HH.out.2.2, (HFR.out (by first | rfl | trivial)).2, (HFR.out (by first | rfl | trivial)).1, HRR.out (by first | rfl | trivial)⟩), HB2⟩
        · have e1 : decide ((1000 : Int) < (P.length : Int)) = false := decide_eq_false (by omega)
          have e2 : decide ((1000 : Int) < (S.length : Int)) = false := decide_eq_false (by omega)
          have e3 : decide ((1000 : Int) < (L.length : Int)) = true := decide_eq_true (by omega)
          clear h1 h2 h3
          go_wp2_with (fail)
          go_meet
          case rel => exact ⟨_, rfl, Lib.hid (fun h => absurd h (by simp)), Lib.hid (Below.refl _ _)⟩
      · have e1 : decide ((1000 : Int) < (P.length : Int)) = false := decide_eq_false (by omega)
        have e2 : decide ((1000 : Int) < (S.length : Int)) = true := decide_eq_true (by omega)
        clear h1 h2
        go_wp2_with (fail)
        go_meet
        case rel => exact ⟨_, rfl, Lib.hid (fun h => absurd h (by simp)), Lib.hid (Below.refl _ _)⟩
    · have e1 : decide ((1000 : Int) < (P.length : Int)) = true := decide_eq_true (by omega)
      clear h1
      go_wp2_with (fail)
      go_meet
      case rel => exact ⟨_, rfl, Lib.hid (fun h => absurd h (by simp)), Lib.hid (Below.refl _ _)⟩
  case rest =>
  obtain ⟨b3, rfl, HLE, HB3⟩ := hcut
  cases b3 with
  | true =>
    go_wp2_with (fail)
    go_ret
    exact ⟨rfl, HB3.out⟩
  | false =>
  have HLT := Lib.hid (HLE.out (by first | rfl | trivial))
  clear HLE
  have hbE : Below wc.heap.size wc (wc.alloc (.cells #[] 27)) := (Below.refl _ _).alloc (Nat.le_refl _) _
  have HO0 : Hid ((wc.alloc (.cells #[] 27)).ownsRow wc.heap.size 27 6 (.slice (some ⟨wc.heap.size, 0, none⟩) 0 0) 0 []) := Lib.hid ⟨rfl, .inr ⟨wc.heap.size, 0, #[], rfl, Nat.le_refl _, heap_alloc_new wc _, Nat.le_refl _, by decide, rfl, rfl⟩⟩
  have hB3 := HB3.out
  have hLw := Kd.C_below HL.out hB3
  have HLw := Lib.hid hLw
  have HLE := Lib.hid (Kd.C_below hLw hbE)
  have HBE := Lib.hid hbE
  clear hbE hB3 hLw
  go_wp2_with (at_builtin; refine wp_copy rfl (.tmp 62) (.tmp 63) rfl wc.heap.size _ rfl HO0.out A0 c0 L rfl hnil HLE.out HLT.out.n HBE.out.size ?_)
  intro vw w1 hown1 hg1
  have hb1 := HBE.out.grown hg1 HBE.out.size (fun k hk => by simp [Value.ownBlock] at hk; omega)
  obtain ⟨Aw, cw, rfl⟩ := own_slice_any hown1
  have HOW := Lib.hid hown1
  have HBW1 := Lib.hid hb1
  clear hown1 hg1 hb1
  go_wp2_with (fail)
  go_loopw [67] (fun v67 wr => ∃ i : Nat, v67 = .int .i64 (i : Int) ∧ i ≤ L.length ∧ Hid (wr.ownsRow wc.heap.size 27 6 (.slice Aw L.length cw) L.length ((want SH L i).flatMap mcells)) ∧ Hid (Below wc.heap.size wc wr) ∧ Hid (∀ j (hj : j < L.length), j < i → 0 ≤ L[j].f1 + mv SH L[j].f0 L[j].f1)) (fun v67 _ => L.length - (intOf v67).toNat)
  case atStart => exact ⟨0, rfl, Nat.zero_le _, Lib.hid (by rw [want_zero]; exact HOW.out), HBW1, Lib.hid (fun j _ h => by omega)⟩
  case round =>
    obtain ⟨i, rfl, hi, HRO, HBR, HPO⟩ := hrel
    clear HOW HBW1
    have hn1000 := HLT.out.n
    by_cases hlt : i < L.length
    · have x0 : (0 : Int) ≤ (i : Int) := by omega
      have x1 : (i : Int) < (L.length : Int) := by omega
      have wi : wrap64 ((i : Int) + 1) = (i : Int) + 1 := wrap_up hlt (by omega)
      obtain ⟨g, hg⟩ : ∃ g, Aw = some ⟨g, 0, none⟩ := by
        rcases HRO.out.2 with ⟨_, h⟩ | ⟨g, cap, cur, e, _⟩
        · omega
        · cases e; exact ⟨g, rfl⟩
      subst hg
      have hcell : ∀ k, k < 6 → wr.cell? ⟨g, i * 6 + k, none⟩ = (mcells (mp L[i]))[k]? := by
        intro k hk
        have hw := want_at SH L i hlt
        obtain ⟨hwl, hwe⟩ := List.getElem?_eq_some_iff.1 hw
        rw [HRO.out.cellAt (i * 6 + k) (by omega), flat_get mcells 6 (fun _ => rfl) _ i k hwl hk, hwe]
      obtain ⟨y, hy⟩ : ∃ y, y = L[i] := ⟨_, rfl⟩
      rw [← hy] at hcell
      have k0 : wr.cell? ⟨g, i * 6, none⟩ = some (.int .i64 y.f0) := hcell 0 (by omega)
      have k1 : wr.cell? ⟨g, i * 6 + 1, none⟩ = some (.int .i64 y.f1) := hcell 1 (by omega)
      have k2 : wr.cell? ⟨g, i * 6 + 2, none⟩ = some (.int .i64 y.f2) := hcell 2 (by omega)
      have k3 : wr.cell? ⟨g, i * 6 + 3, none⟩ = some (.int .i64 y.f3) := hcell 3 (by omega)
      have k4 : wr.cell? ⟨g, i * 6 + 4, none⟩ = some (.int .i64 y.f4) := hcell 4 (by omega)
      have k5 : wr.cell? ⟨g, i * 6 + 5, none⟩ = some (.int .i64 y.f5) := hcell 5 (by omega)
      have HY := Lib.hid hy
      have HI := Lib.hid (⟨hlt, wi, hn1000⟩ : _ ∧ _ ∧ _)
      clear hcell hy hi hn1000 wi
      go_upto_region 9 with (fail)
      have hE := heap_alloc_new wr (.cells #[.int .i64 y.f0, .int .i64 y.f1, .int .i64 y.f2, .int .i64 y.f3, .int .i64 y.f4, .int .i64 y.f5] 27)
      have hEb := (Below.refl wr.heap.size wr).alloc (Nat.le_refl _) (.cells #[.int .i64 y.f0, .int .i64 y.f1, .int .i64 y.f2, .int .i64 y.f3, .int .i64 y.f4, .int .i64 y.f5] 27)
      clear k0 k1 k2 k3 k4 k5
      generalize wr.alloc (.cells #[.int .i64 y.f0, .int .i64 y.f1, .int .i64 y.f2, .int .i64 y.f3, .int .i64 y.f4, .int .i64 y.f5] 27) = w8 at hE hEb ⊢
      have HE := Lib.hid hE
      have HEB := Lib.hid hEb
      clear hE hEb
      generalize hbk : wr.heap.size = bk at HE ⊢
      have HBK := Lib.hid hbk
      clear hbk
      go_wp2_with (fail)
      go_loopw [12, 74] (fun v12 v74 wq => ∃ j : Nat, v74 = .int .i64 (j : Int) ∧ j ≤ SH.length ∧ v12 = .int .i64 (mv (SH.take j) y.f0 y.f1) ∧ Hid (Below w8.heap.size w8 wq)) (fun _ v74 _ => SH.length - (intOf v74).toNat)
      case atStart => exact ⟨0, rfl, Nat.zero_le _, rfl, Lib.hid (Below.refl _ _)⟩
      case round =>
        obtain ⟨j, rfl, hj, rfl, HBQ⟩ := hrel
        by_cases hjl : j < SH.length
        · have p0 : (0 : Int) ≤ (j : Int) := by omega
          have p1 : (j : Int) < (SH.length : Int) := by omega
          have h1000 := HLT.out.seen.1
          have wj : wrap64 ((j : Int) + 1) = (j : Int) + 1 := wrap_up hjl (by omega)
          have hseen := HLT.out.seen.2.2.small j hjl hjl
          obtain ⟨x, hx⟩ : ∃ x, x = SH[j] := ⟨_, rfl⟩
          have hbq := (HB3.out.trans ((HBR.out.trans (HEB.out.mono HBR.out.size)).mono HB3.out.size)).trans (HBQ.out.mono (by have := HB3.out.size; have := HBR.out.size; have := HEB.out.size; omega))
          obtain ⟨g2, o2, cap2, e, _, _, h⟩ := (HSH.out.1 (by intro e; rw [e] at hjl; simp at hjl)).below hbq
          cases e
          obtain ⟨k0, k1, k2, k3⟩ := h j hjl
          rw [← hx] at k0 k1 k2 k3
          have HMV := Lib.hid (show mv (SH.take (j + 1)) y.f0 y.f1 = if x.line = y.f0 ∧ x.col < y.f1 then x.dl else mv (SH.take j) y.f0 y.f1 by
            rw [hx, List.take_succ_eq_append_getElem hjl]
            unfold mv
            rw [List.foldl_append]
            rfl)
          rw [← hx] at hseen
          have HSE := Lib.hid hseen
          have HJ := Lib.hid (⟨hjl, wj⟩ : _ ∧ _)
          have hEq := (HBQ.out.block bk (by exact blk_lt HE.out)).trans HE.out
          have HEQ := Lib.hid hEq
          obtain ⟨mm, hmm⟩ : ∃ mm, mm = mv (SH.take j) y.f0 y.f1 := ⟨_, rfl⟩
          rw [← hmm]
          have HM := Lib.hid hmm
          clear h hbq hseen h1000 wj hEq hmm hx hjl hj
          go_upto_region 13 with (fail)
          have hD := heap_alloc_new wr (.cells #[.int .i64 x.line, .int .i64 x.col, .int .i64 x.aline, .int .i64 x.acol] 28)
          have hDb := (Below.refl wr.heap.size wr).alloc (Nat.le_refl _) (.cells #[.int .i64 x.line, .int .i64 x.col, .int .i64 x.aline, .int .i64 x.acol] 28)
          clear k0 k1 k2 k3
          generalize wr.alloc (.cells #[.int .i64 x.line, .int .i64 x.col, .int .i64 x.aline, .int .i64 x.acol] 28) = w9 at hD hDb ⊢
          have HB9 := Lib.hid (HBQ.out.trans (hDb.mono HBQ.out.size))
          have d0 : w9.cell? ⟨wr.heap.size, 0, none⟩ = some (.int .i64 x.line) := blk_cell hD 0
          have d1 : w9.cell? ⟨wr.heap.size, 1, none⟩ = some (.int .i64 x.col) := blk_cell hD 1
          have d3 : w9.cell? ⟨wr.heap.size, 3, none⟩ = some (.int .i64 x.acol) := blk_cell hD 3
          have hEq9 := (hDb.block bk (blk_lt HEQ.out)).trans HEQ.out
          have e0 : w9.cell? ⟨bk, 0, none⟩ = some (.int .i64 y.f0) := blk_cell hEq9 0
          have e1 : w9.cell? ⟨bk, 1, none⟩ = some (.int .i64 y.f1) := blk_cell hEq9 1
          clear hD hDb hEq9
          by_cases c1 : x.line = y.f0
          · by_cases c2 : x.col < y.f1
            · have HC := Lib.hid (⟨c1, c2⟩ : x.line = y.f0 ∧ x.col < y.f1)
              have q2 : decide (x.col < y.f1) = true := decide_eq_true c2
              have wd : wrap64 (x.acol - x.col) = x.acol - x.col := by have := HSE.out; unfold wrap64; omega
              have HWD := Lib.hid wd
              rw [c1] at d0
              clear c1 c2
              go_wp2_with (fail)
              refine ⟨⟨j + 1, by rw [HJ.out.2]; rfl, HJ.out.1, ?_, HB9⟩, ?_⟩
              · rw [HMV.out]
                rw [if_pos HC.out, HWD.out]; rfl
              · rw [HJ.out.2]
                have hjl := HJ.out.1
                simp only [intOf]
                omega

            · have HC := Lib.hid (show ¬ (x.line = y.f0 ∧ x.col < y.f1) from fun h => c2 h.2)
              have q2 : decide (x.col < y.f1) = false := decide_eq_false c2
              rw [c1] at d0
              clear c1 c2
              go_wp2_with (fail)
              refine ⟨⟨j + 1, by rw [HJ.out.2]; rfl, HJ.out.1, ?_, HB9⟩, ?_⟩
              · rw [HMV.out]
                rw [if_neg HC.out, HM.out]
              · rw [HJ.out.2]
                have hjl := HJ.out.1
                simp only [intOf]
                omega

          · have HC := Lib.hid (show ¬ (x.line = y.f0 ∧ x.col < y.f1) from fun h => c1 h.1)
            go_wp2_with (fail)
            refine ⟨⟨j + 1, by rw [HJ.out.2]; rfl, HJ.out.1, ?_, HB9⟩, ?_⟩
            · rw [HMV.out]
              rw [if_neg HC.out, HM.out]
            · rw [HJ.out.2]
              have hjl := HJ.out.1
              simp only [intOf]
              omega

        · obtain rfl : j = SH.length := by omega
          have hlt' : ¬ ((SH.length : Int) < (SH.length : Int)) := by omega
          rw [List.take_length]
          have hlt := HI.out.1
          have hss : Ss SH := ⟨by obtain ⟨s, t, e, _⟩ := HLT.out.seen.2.1; rw [e]; simp, fun s hs => by
            obtain ⟨q, hq, rfl⟩ := List.getElem_of_mem hs
            exact HLT.out.seen.2.2.small q hq hq⟩
          have hmv := mv_small hss y.f0 y.f1
          have hyf : 0 ≤ y.f1 ∧ y.f1 ≤ 1073741824 := by
            have h := (HLT.out.fm i hlt).1.2.1
            have e : L.getD i z27 = y := by rw [HY.out]; simp [List.getD, hlt]
            rw [e] at h
            exact h
          obtain ⟨mm, hmm⟩ : ∃ mm, mm = mv SH y.f0 y.f1 := ⟨_, rfl⟩
          rw [← hmm] at hmv ⊢
          have hrow := own_below HBQ.out (own_below HEB.out HRO.out (Nat.le_refl _)) (Nat.le_refl _)
          have hw := want_at SH L i hlt
          obtain ⟨hwl, hwe⟩ := List.getElem?_eq_some_iff.1 hw
          have hc1 : wr.cell? ⟨g, i * 6 + 1, none⟩ = some (.int .i64 y.f1) := by
            rw [hrow.cellAt (i * 6 + 1) (by omega), flat_get mcells 6 (fun _ => rfl) _ i 1 hwl (by omega), hwe, HY.out]
            rfl
          have hf1 : wr.frozen? ⟨g, i * 6 + 1, none⟩ = false := by
            rcases hrow.2 with ⟨e, _⟩ | ⟨g', cap', cur, e, _, h2, _⟩
            · cases e
            · cases e
              exact blk_frozen h2 _
          have x0 : (0 : Int) ≤ (i : Int) := by omega
          have x1 : (i : Int) < (L.length : Int) := by omega
          have wv : wrap64 (y.f1 + mm) = y.f1 + mm := by unfold wrap64; omega
          have HM := Lib.hid hmm
          have HROW := Lib.hid hrow
          clear hjl hj hss hmv hyf hmm hrow hw hwl hwe
          go_upto_region 17 with (fail)
          have hlt := HI.out.1
          have hset := own_set HROW.out (i * 6 + 1) (by omega) (.int .i64 (y.f1 + mm))
          have hgb : wc.heap.size ≤ g := (HROW.out.lt g rfl).1
          have hbl : Below wc.heap.size wc (wr.setCell ⟨g, i * 6 + 1, none⟩ (.int .i64 (y.f1 + mm))) := ((HBR.out.trans (HEB.out.mono HBR.out.size)).trans (HBQ.out.mono (Nat.le_trans HBR.out.size HEB.out.size))).setCell hgb _
          have hfl : ((want SH L i).flatMap mcells).set (i * 6 + 1) (.int .i64 (y.f1 + mm)) = (want SH L (i + 1)).flatMap mcells := by
            have hw := want_at SH L i hlt
            obtain ⟨hwl, hwe⟩ := List.getElem?_eq_some_iff.1 hw
            rw [← want_set SH L i hlt]
            refine flat_set mcells 6 (fun _ => rfl) (want SH L i) i 1 hwl (moved SH (mp L[i])) _ (by omega) ?_
            rw [hwe, ← HY.out, HM.out]
            rfl
          rw [hfl] at hset
          generalize wr.setCell ⟨g, i * 6 + 1, none⟩ (.int .i64 (y.f1 + mm)) = w9 at hset hbl ⊢
          have hw := want_set SH L i hlt
          have hc1 : w9.cell? ⟨g, i * 6 + 1, none⟩ = some (.int .i64 (y.f1 + mm)) := by
            have hwl : i < (want SH L (i + 1)).length := by rw [want_len SH L (i + 1) hlt]; exact hlt
            have hwe : (want SH L (i + 1))[i]'hwl = moved SH (mp L[i]) := by
              have : (want SH L (i + 1))[i]? = some (moved SH (mp L[i])) := by
                rw [← hw, List.getElem?_set_self (by rw [want_len SH L i (Nat.le_of_lt hlt)]; exact hlt)]
              exact (List.getElem?_eq_some_iff.1 this).2
            rw [hset.cellAt (i * 6 + 1) (by omega), flat_get mcells 6 (fun _ => rfl) _ i 1 hwl (by omega), hwe, ← HY.out, HM.out]
            rfl
          have HS9 := Lib.hid hset
          have HB9 := Lib.hid hbl
          clear hset hgb hbl hfl hw hf1 wv hlt
          cases hneg : decide (y.f1 + mm < 0) with
          | true =>
            go_wp2_with (fail)
            go_ret
            exact ⟨rfl, HB3.out.trans (HB9.out.mono HB3.out.size)⟩
          | false =>
            have HNG := Lib.hid hneg
            go_wp2_with (fail)
            refine ⟨⟨i + 1, by rw [HI.out.2.1]; rfl, HI.out.1, HS9, HB9, Lib.hid (fun j hj hji => ?_)⟩, ?_⟩
            · by_cases e : j = i
              · subst e
                rw [← HY.out, ← HM.out]
                exact Int.not_lt.1 (of_decide_eq_false HNG.out)
              · exact HPO.out j hj (by omega)
            · rw [HI.out.2.1]
              have hlt := HI.out.1
              simp only [intOf]
              omega
    · obtain rfl : i = L.length := by omega
      have hlt' : ¬ ((L.length : Int) < (L.length : Int)) := by omega
      clear hlt hi
      go_wp2_with (fail)
      have hbw := HB3.out.trans (HBR.out.mono HB3.out.size)
      obtain ⟨kt, htx⟩ := text_f L HLT.out.n HLT.out.fm HLT.out.so
      have HTX := Lib.hid htx
      have HBX := Lib.hid hbw
      clear htx hbw hn1000
      refine (spec_MappingsText.calls kt A0 c0 L _ wr (Kd.C_below HLw.out HBR.out) hc0 HTX.out).mono ?_
      rintro e w2 ⟨rfl, hb2⟩
      obtain ⟨s0, t0, hs0, hsz⟩ := HLT.out.seen.2.1
      have hwh : Whole P S L SH := by
        rw [hsz] at hs0
        refine whole P S L SH t0 HLT.out.p HLT.out.s HLT.out.n HLT.out.fm HLT.out.so (fun j hj => HLT.out.seen.2.2.small j hj hj) (fun j hj h => HLT.out.seen.2.2.sort j hj hj h) hs0 HLT.out.seen.1 (fun y hy => ?_)
        obtain ⟨j, hj, rfl⟩ := List.getElem_of_mem hy
        exact HPO.out j hj hj
      have HW := Lib.hid hwh
      have HB2 := Lib.hid (HBX.out.trans (hb2.mono HBX.out.size))
      have HBR2 := Lib.hid (HBR.out.trans (hb2.mono HBR.out.size))
      have HRO2 := Lib.hid (own_below hb2 HRO.out (Nat.le_refl _))
      clear hwh hb2 hs0 hsz
      go_wp2_with (fail)
      have hsl : Sl w2 w2.heap.size (.slice Ash SH.length csh) SH := by
        obtain ⟨g, o, cap, e, q1, q2, q3⟩ := (HSH.out.1 HW.out.ne).below HB2.out
        exact ⟨g, o, cap, e, q1, Nat.lt_of_lt_of_le q2 HB2.out.size, q3⟩
      refine (finalizeMap w2 _ P _ S SH (its st0 true (L.map mp)) hsl HW.out.ne HW.out.lg HW.out.tl HW.out.cs HW.out.sep HW.out.rg HW.out.ss HW.out.len HW.out.tlen HW.out.llen HW.out.slen).mono ?_
      rintro e w3 ⟨rfl, hb3⟩
      have HB33 := Lib.hid (HB2.out.trans (hb3.mono HB2.out.size))
      have HBR3 := Lib.hid (HBR2.out.trans (hb3.mono HBR2.out.size))
      have HRO3 := Lib.hid (own_below hb3 HRO2.out (Nat.le_refl _))
      rw [HW.out.tlF]
      obtain ⟨F, hF⟩ : ∃ F, F = rn (fin ⟨0, 0, 0, SH⟩ (its st0 true (L.map mp))) := ⟨_, rfl⟩
      rw [← hF]
      have HFF := Lib.hid hF
      obtain ⟨R, hRR⟩ : ∃ R, R = P ++ F ++ S := ⟨_, rfl⟩
      rw [← hRR]
      have hRs : (bs R).size = R.length := bs_size R
      have HRR := Lib.hid hRR
      have HLN := Lib.hid (show R.length = P.length + F.length + S.length by rw [hRR, List.length_append, List.length_append])
      obtain ⟨m, hm⟩ : ∃ m, m = P.length + F.length := ⟨_, rfl⟩
      have xa : (bs R).extract 0 P.length = bs P := by rw [hRR]; exact ext_a P F S
      have xb : (bs R).extract m R.length = bs S := by rw [hRR, hm]; exact ext_b P F S
      have xc : (bs R).extract P.length m = bs F := by rw [hRR, hm]; exact ext_c P F S
      have hln := HLN.out
      have hp1 := HLT.out.p
      have hs1 := HLT.out.s
      have hf1 : F.length < 4294967296 := by rw [hF]; exact HW.out.frn
      have hps : P.length + S.length < 4294967296 := by omega
      have hRl : R.length < 4294967296 := by have := HW.out.len; rw [HW.out.tlF, ← hF, ← hRR] at this; exact this
      have hmb : m < 4294967296 := by omega
      have he : (R.length : Int) - (S.length : Int) = (m : Int) := by omega
      have d1 : decide ((R.length : Int) < (P.length : Int) + (S.length : Int)) = false := decide_eq_false (by omega)
      have d2 : (0 : Int) ≤ (P.length : Int) := by omega
      have d3 : (P.length : Int) ≤ (R.length : Int) := by omega
      have d4 : (0 : Int) ≤ (m : Int) := by omega
      have d5 : (m : Int) ≤ (R.length : Int) := by omega
      have d6 : (P.length : Int) ≤ (m : Int) := by omega
      have HF1 := Lib.hid hf1
      clear hsl hb3 hF hRR hm hln hp1 hs1 hf1
      have wa : wrap64 ((P.length : Int) + (S.length : Int)) = (P.length : Int) + (S.length : Int) := wrap_two P.length S.length hps
      have wb : wrap64 ((R.length : Int) - (S.length : Int)) = (m : Int) := by rw [he]; exact wrap_n m hmb
      clear hps hmb he hRl
      go_wp2_with (fail)
      refine (mappings w3 F (fin ⟨0, 0, 0, SH⟩ (its st0 true (L.map mp))) HFF.out HF1.out HW.out.ok HW.out.fsep HW.out.fcs HW.out.flen).mono ?_
      rintro e w4 ⟨v, dd, rfl, hrow, hb4⟩
      rw [HW.out.dec] at hrow
      have HRW := Lib.hid hrow
      have HB4 := Lib.hid (HB33.out.trans (hb4.mono HB33.out.size))
      have HRO4 := Lib.hid (own_below hb4 HRO3.out (Nat.le_refl _))
      obtain ⟨Av, cv, rfl⟩ := own_slice_any hrow
      clear hrow hb4 wa wb xa xb xc d1 d2 d3 d4 d5 d6
      go_upto_region 24 with (fail)
      have hbA := (Below.refl w4.heap.size w4).alloc (Nat.le_refl _) (.cells #[.int .i64 dd.line, .int .i64 dd.col, .int .i64 dd.src, .int .i64 dd.ol, .int .i64 dd.oc, .int .i64 dd.nm] 32)
      have hrw := own_below hbA HRW.out (Nat.le_refl _)
      have hro := own_below hbA HRO4.out (Nat.le_refl _)
      have hbf := HB4.out.trans (hbA.mono HB4.out.size)
      have hlen : ((L.map mp).map (moved SH)).length = L.length := by simp
      rw [want_all] at hro
      obtain ⟨q1, q2, q3⟩ := kd_of_own hrw rfl (by rw [hlen]; exact HLT.out.n)
      obtain ⟨p1, p2, p3⟩ := kd_of_own hro hlen.symm HLT.out.n
      have HQ := Lib.hid (⟨q1, q2, q3⟩ : _ ∧ _ ∧ _)
      have HPP := Lib.hid (⟨p1, p2, p3⟩ : _ ∧ _ ∧ _)
      have HBF := Lib.hid hbf
      have HSF := Lib.hid (same_f (((L.map mp).map (moved SH)).map sm) (by rw [p3]; exact HLT.out.n))
      clear hbA hrw hro hbf
      generalize w4.alloc (.cells #[.int .i64 dd.line, .int .i64 dd.col, .int .i64 dd.src, .int .i64 dd.ol, .int .i64 dd.oc, .int .i64 dd.nm] 32) = w5 at q1 p1 HQ HPP HBF ⊢
      have hcs := spec_SameMappings.calls 1002 _ cv _ _ cw _ true w5 q1 q2 p1 p2 HSF.out
      rw [q3, hlen] at hcs
      have HCS := Lib.hid hcs
      clear hcs
      clear q1 q2 q3 p1 p2 p3 hlen
      go_wp2_with (fail)
      refine (HCS.out).mono ?_
      rintro e w6 ⟨rfl, nd, rfl⟩
      go_wp2_with (fail)
      go_ret
      exact ⟨rfl, HBF.out.trans ⟨rfl, rfl, rfl, Nat.le_refl _, fun _ _ => rfl⟩⟩
end Go.Proofs.Ytdhaifcjhmmdlaa.fnFinalize
