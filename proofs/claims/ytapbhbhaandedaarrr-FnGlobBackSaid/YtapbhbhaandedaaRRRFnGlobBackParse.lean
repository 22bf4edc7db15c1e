/-
  FnGlobBack: the walk of helpers.ParseGlobPattern: it hands back a slice of the parts that the plain function `parse` gives.
  Conditions: texts of at most 2^32 bytes.
-/
import Derived.Test.YtapbhbhaandedaaRRRFnGlobBackPure
import Derived.Test.YtapbhbhaandedaaRRRRows
import Derived.Test.YtapbhbhaandedaaRRRShelf
import Derived.Test.YtapbhbhaandedaaRRRWWords
import Derived.WalkKit
import Derived.WalkSmall
import Derived.Lib.Hide
namespace Go.Proofs.YtapbhbhaandedaaRRR.fnGlobBack
open Go.RowKit Go.Proofs.YtapbhbhaandedaaRRRW.PrintWords
set_option linter.unusedVariables false
set_option linter.unusedSimpArgs false

/-- the bytes of a text -/
def by' (s : ByteArray) : List UInt8 := s.data.toList
theorem by_len (s : ByteArray) : (by' s).length = s.size := by unfold by'; rw [Array.length_toList]; rfl
theorem by_extract (s : ByteArray) (i j : Nat) : by' (s.extract i j) = ((by' s).drop i).take (j - i) := by
  unfold by'
  rw [ByteArray.data_extract, Array.toList_extract]
def str (l : List UInt8) : ByteArray := ⟨l.toArray⟩
theorem str_by (s : ByteArray) : str (by' s) = s := by
  show ByteArray.mk s.data.toList.toArray = s
  rw [Array.toArray_toList]

/-- the cells of a row of parts -/
def cells (k : IntKind) (ps : List (List UInt8 × Nat)) : List Value := ps.flatMap fun x => [.string (str x.1), .int k x.2]
theorem cells_app (k : IntKind) (a b : List (List UInt8 × Nat)) : cells k (a ++ b) = cells k a ++ cells k b := by simp [cells]
theorem cells_len (k : IntKind) (a : List (List UInt8 × Nat)) : (cells k a).length = 2 * a.length := by
  induction a with
  | nil => rfl
  | cons x r ih => simp only [cells, List.flatMap_cons, List.length_append, List.length_cons, List.length_nil] at *; omega

theorem index_star (L : List UInt8) : Lib.indexByte L 42 = (match L.dropWhile (· != 42) with | [] => (-1 : Int) | _ :: _ => ((L.takeWhile (· != 42)).length : Int)) := by
  induction L with
  | nil => rfl
  | cons c r ih =>
    by_cases hc : c = 42
    · subst hc
      rw [List.dropWhile_cons, if_neg (by decide), List.takeWhile_cons, if_neg (by decide)]
      rfl
    · have h1 : (c != 42) = true := by simpa using hc
      have h2 : (c == 42) = false := by simpa using hc
      rw [List.dropWhile_cons, if_pos h1, List.takeWhile_cons, if_pos h1]
      show (if (c == 42) = true then (0:Int) else if (Lib.indexByte r 42 == -1) = true then -1 else Lib.indexByte r 42 + 1) = _
      rw [h2, ih]
      cases r.dropWhile (· != 42) with
      | nil => rfl
      | cons a b =>
        have h3 : ((((r.takeWhile (· != 42)).length : Int)) == -1) = false := by
          rw [beq_eq_false_iff_ne]; omega
        simp only [h3]
        simp

theorem by_at (s : ByteArray) (k : Nat) (h : k < s.size) : s[k]'h = (by' s).getD k 0 := by
  have h' : k < (by' s).length := by rw [by_len]; exact h
  have e : (by' s).getD k 0 = (by' s)[k]'h' := by simp [List.getD, List.getElem?_eq_getElem h']
  rw [e]
  exact (Array.getElem_toList (xs := s.data) (i := k) h).symm
theorem at_star {L p q r : List UInt8} (h : L = p ++ 42 :: (q ++ r)) (hq : ∀ b ∈ q, b = 42) (i : Nat) (hi : i < q.length) : L.getD (p.length + (1 + i)) 0 = 42 := by
  subst h
  rw [List.getD, List.getElem?_append_right (by omega), show p.length + (1 + i) - p.length = i + 1 by omega, List.getElem?_cons_succ, List.getElem?_append_left hi, List.getElem?_eq_getElem hi]
  exact hq _ (List.getElem_mem hi)
theorem at_rest {L p q r : List UInt8} (h : L = p ++ 42 :: (q ++ r)) : L.getD (p.length + (1 + q.length)) 0 = r.headD 0 := by
  subst h
  rw [List.getD, List.getElem?_append_right (by omega), show p.length + (1 + q.length) - p.length = q.length + 1 by omega, List.getElem?_cons_succ, List.getElem?_append_right (by omega), Nat.sub_self]
  cases r <;> rfl
theorem at_len {L p q r : List UInt8} (h : L = p ++ 42 :: (q ++ r)) : L.length = p.length + (1 + q.length) + r.length := by
  subst h
  simp only [List.length_append, List.length_cons]
  omega
theorem take_all {t : List UInt8} : ∀ b ∈ t.takeWhile (· == 42), b = 42 := by
  intro b hb
  induction t with
  | nil => simp at hb
  | cons c r ih =>
    rw [List.takeWhile_cons] at hb
    split at hb
    · rename_i hc
      rcases List.mem_cons.1 hb with rfl | hb
      · simpa using hc
      · exact ih hb
    · simp at hb

theorem news_alloc (w : World) (cs : List Value) (t : TypeId) (j : Nat) (u : Value) (h : cs[j]? = some u) : (w.alloc (.cells cs.toArray t)).cell? ((⟨w.heap.size, 0, none⟩ : Addr).add j) = some u := by
  have e : (⟨w.heap.size, 0, none⟩ : Addr).add j = ⟨w.heap.size, j, none⟩ := by unfold Addr.add; split <;> simp_all
  rw [e, blk_cell (heap_alloc_new w _) j]
  simpa using h
theorem info38 : (Try.prog.info? 38).map (fun i => (i.zero, i.size, i.bytes)) = some (some (.agg #[.string ⟨#[]⟩, .int .u8 0]), 2, 24) := by kernel_rfl

def Parts (k : IntKind) (e : TypeId) (ps : List (List UInt8 × Nat)) (w : World) (en : Ending) (w' : World) : Prop := ∃ v, en = .returned v ∧ w'.ownsRow w.heap.size e 2 v ps.length (cells k ps) ∧ Below w.heap.size w w'

set_option maxHeartbeats 40000000 in
set_option maxRecDepth 100000 in
theorem parts (s : ByteArray) (w : World) (hs : s.size ≤ 4294967296) : Calls Try.prog 19 #[.string s] w fun e w' => Parts .u8 38 (parse s.size (by' s)) w e w' := by
  obtain ⟨i0, hi, hz0, hz1, hz2⟩ := info_parts info38
  go_enter Try.func19, Try.ntmps19
  go_wp2
  go_loopw [0, 2, 3, 4, 5] (fun v0 v2 v3 v4 v5 wr => ∃ (T : ByteArray) (f : Nat) (acc : List (List UInt8 × Nat)), v0 = .string T ∧ T.size ≤ f ∧ Hid (wr.ownsRow w.heap.size 38 2 v2 acc.length (cells .u8 acc)) ∧ Hid (Below w.heap.size w wr) ∧ Hid (acc ++ parse f (by' T) = parse s.size (by' s)) ∧ acc.length + T.size ≤ s.size) (fun v0 _ _ _ _ _ => match v0 with | .string T => T.size | _ => 0)
  case atStart => exact ⟨s, s.size, [], rfl, Nat.le_refl _, Lib.hid (World.ownsRow_nil _ _ _ _), Lib.hid (Below.refl _ _), Lib.hid rfl, by simp⟩
  case round =>
    obtain ⟨T, f, acc, rfl, hf, HO, HB, HA, hlen⟩ := hrel
    have hix := index_star (by' T)
    cases hd : (by' T).dropWhile (· != 42) with
    | nil =>
      rw [hd] at hix
      have HIX := Lib.hid (show Lib.indexByte T.data.toList ((42:Int).toNat.toUInt8) = -1 from hix)
      have HD := Lib.hid hd
      clear hd hix
      go_wp2_with (go_at_call 26; refine (Try.strings_IndexByte T 42 _).mono ?_)
      rintro e w1 ⟨rfl, hw⟩
      have hw := hw.symm
      subst hw
      rw [HIX.out]
      go_wp2_with (at_builtin; refine wpList_append_own _ rfl (.tmp 10) (.tmp 13) 33 rfl w.heap.size 38 i0 (.agg #[.string ⟨#[]⟩, .int .u8 0]) 2 24 Try.underlying33 hi hz0 hz1 hz2 rfl (by decide) _ acc.length _ rfl (HO.out.alloc _) ⟨wr.heap.size, 0, none⟩ 1 1 [.string T, .int .u8 0] rfl rfl ?c1 ?c2 ?c3 ?c4 ?c5 ?_)
      case c1 => exact fun j u h => news_alloc _ _ _ j u h
      case c2 => intro u hu; simp only [List.mem_cons, List.not_mem_nil, or_false] at hu; rcases hu with rfl | rfl <;> rfl
      case c3 => unfold maxLen; omega
      case c4 => omega
      case c5 => have := HB.out.size; simp; omega
      intro v' w2 hown3 hgr _
      have hb2 : Below w.heap.size w w2 := (HB.out.alloc HB.out.size _).grown hgr (by have := HB.out.size; simp; omega) (own_base HO.out)
      have e : parse f (by' T) = [(by' T, 0)] := no_star HD.out f
      have hown4 : w2.ownsRow w.heap.size 38 2 v' (parse s.size (by' s)).length (cells .u8 (parse s.size (by' s))) := by
        rw [← HA.out, e, cells_app, List.length_append]
        have ec : cells .u8 [(by' T, 0)] = [.string T, .int .u8 0] := by
          show [Value.string (str (by' T)), .int .u8 ((0 : Nat) : Int)] = _
          rw [str_by]; rfl
        rw [ec]
        exact hown3
      have HO4 := Lib.hid hown4
      have HB4 := Lib.hid hb2
      clear hown3 hown4 hgr hb2 e
      go_wp2_with (fail)
      go_ret
      exact ⟨_, rfl, HO4.out, HB4.out⟩
    | cons c t =>
      have hsp := split_star hd
      have hpn := take_no (L := by' T)
      have hrn := drop_head (t := t)
      have hqn := take_all (t := t)
      have epf : ∀ g, parse (g + 1) (by' T) = ((by' T).takeWhile (· != 42), wild ((by' T).takeWhile (· != 42)) (1 + (t.takeWhile (· == 42)).length) (t.dropWhile (· == 42))) :: parse g (t.dropWhile (· == 42)) := fun g => by
        simp only [parse, hd]
      have htq := (List.takeWhile_append_dropWhile (p := fun b : UInt8 => b == 42) (l := t)).symm
      rw [hd] at hix
      simp only at hix
      rw [htq] at hsp
      generalize (by' T).takeWhile (· != 42) = p at hsp hpn epf hix
      generalize t.takeWhile (· == 42) = q at hsp hqn epf
      generalize t.dropWhile (· == 42) = r at hsp hrn epf
      have hlenT := at_len hsp
      rw [by_len] at hlenT
      have HIX := Lib.hid (show Lib.indexByte T.data.toList ((42:Int).toNat.toUInt8) = (p.length : Int) from hix)
      have HSP := Lib.hid hsp
      have HPN := Lib.hid hpn
      have HRN := Lib.hid hrn
      have HQN := Lib.hid hqn
      have HPF := Lib.hid epf
      clear hd hix hsp hpn hrn hqn epf htq
      have p0 : (0:Int) ≤ p.length := by omega
      go_wp2_with (go_at_call 26; refine (Try.strings_IndexByte T 42 _).mono ?_)
      rintro e w1 ⟨rfl, hw⟩
      have hw := hw.symm
      subst hw
      rw [HIX.out]
      go_wp2_with (fail)
      go_loopw [4] (fun v4 wx => ∃ cc : Nat, v4 = .int .i64 cc ∧ 1 ≤ cc ∧ cc ≤ 1 + q.length ∧ wx = wr) (fun v4 _ => 2 + q.length - (intOf v4).toNat)
      case atStart => exact ⟨1, rfl, by omega, by omega, rfl⟩
      case round =>
        obtain ⟨cc, rfl, hc1, hc2, rfl⟩ := hrel
        have c0 : (0:Int) ≤ cc := by omega
        have c3 : (0:Int) ≤ (p.length:Int) + cc := by omega
        by_cases hcq : cc < 1 + q.length
        · have c1 : (p.length:Int) + cc < T.size := by omega
          have c2 : p.length + cc < T.size := by omega
          have hb := by_at T (p.length + cc) c2
          have hb2 := at_star HSP.out HQN.out (cc - 1) (by omega)
          rw [show 1 + (cc - 1) = cc by omega] at hb2
          have hb3 : (((T[p.length + cc]'c2).toNat : Int) == 42) = true := by rw [hb, hb2]; rfl
          clear hb hb2
          go_wp2_with (fail)
          go_roundw
          case rel => exact ⟨cc + 1, by simp, by omega, by omega, trivial⟩
          case measure =>
            simp only [intOf]
            omega
        · have hcc : cc = 1 + q.length := by omega
          have HR := Lib.hid (show by' (T.extract (p.length + cc) T.size) = r by
            rw [by_extract, HSP.out, hcc]
            rw [show p ++ 42 :: (q ++ r) = (p ++ 42 :: q) ++ r by simp]
            rw [List.drop_append_of_le_length (by simp; omega), List.drop_eq_nil_of_le (by simp; omega), List.nil_append]
            exact List.take_of_length_le (by omega))
          have HP := Lib.hid (show by' (T.extract 0 p.length) = p by
            rw [by_extract, HSP.out, List.drop_zero, Nat.sub_zero]
            exact List.take_left ..)
          have hrest := at_rest HSP.out
          rw [← hcc] at hrest
          have hsz : p.length + cc + r.length = T.size := by omega
          have b1 : (p.length:Int) + cc ≤ T.size := by omega
          have b2 : (p.length:Int) ≤ T.size := by omega
          have HSZ := Lib.hid hsz
          clear hlenT
          have HCC := Lib.hid hcc
          cases hr : r with
          | nil =>
            subst hr
            have e1 : ¬ (p.length:Int) + cc < T.size := by simp at hsz; omega
            have e2 : (((p.length:Int) + cc) == (T.size:Int)) = true := by simp at hsz; simp; omega
            have HRS := Lib.hid (show slashO ([] : List UInt8).head? = true from rfl)
            clear hrest hsz hcc
            by_cases hc1 : 1 < cc
            · have c1 : (1:Int) < cc := by omega
              rcases List.eq_nil_or_concat p with hp | ⟨p', x, hp⟩
              · have z1 : ((p.length:Int) == 0) = true := by rw [hp]; rfl
                have HPS := Lib.hid (show slashO p.getLast? = true by rw [hp]; rfl)
                clear hp
                have HW := Lib.hid (show wild p (1 + q.length) ([] : List UInt8) = 2 by unfold wild; rw [if_pos ⟨by have := HCC.out; omega, HPS.out, HRS.out⟩])
                go_wp2_with (at_builtin; refine wpList_append_own _ rfl (.tmp 75) (.tmp 81) 33 rfl w.heap.size 38 i0 (.agg #[.string ⟨#[]⟩, .int .u8 0]) 2 24 Try.underlying33 hi hz0 hz1 hz2 rfl (by decide) _ acc.length _ rfl (HO.out.alloc _) ⟨wr.heap.size, 0, none⟩ 1 1 [.string (T.extract 0 p.length), .int .u8 2] rfl rfl (fun j u h => news_alloc _ _ _ j u h) (by intro u hu; simp only [List.mem_cons, List.not_mem_nil, or_false] at hu; rcases hu with rfl | rfl <;> rfl) (by unfold maxLen; omega) (by omega) (by have := HB.out.size; simp; omega) ?_)
                intro v' w2 hown3 hgr _
                have HB4 := Lib.hid (show Below w.heap.size w w2 from (HB.out.alloc HB.out.size _).grown hgr (by have := HB.out.size; simp; omega) (own_base HO.out))
                have HO4 := Lib.hid (show w2.ownsRow w.heap.size 38 2 v' (acc ++ [(p, 2)]).length (cells .u8 (acc ++ [(p, 2)])) by
                  rw [cells_app, List.length_append]
                  have ec : cells .u8 [(p, 2)] = [.string (T.extract 0 p.length), .int .u8 2] := by
                    show [Value.string (str p), .int .u8 ((2 : Nat) : Int)] = _
                    rw [← HP.out, str_by, HP.out]; rfl
                  rw [ec]
                  exact hown3)
                clear hown3 hgr
                have HA4 := Lib.hid (show (acc ++ [(p, 2)]) ++ parse (f - 1) (by' (T.extract (p.length + cc) T.size)) = parse s.size (by' s) by
                  have hA := HA.out
                  obtain ⟨g, rfl⟩ : ∃ g, f = g + 1 := ⟨f - 1, by have := HSZ.out; have := HCC.out; omega⟩
                  rw [HPF.out g, HW.out] at hA
                  rw [HR.out, ← hA, List.append_assoc]
                  rfl)
                have HS4 := Lib.hid (show (T.extract (p.length + cc) T.size).size = ([] : List UInt8).length by rw [← by_len, HR.out])
                go_wp2_with (fail)
                go_roundw
                case rel =>
                  refine ⟨_, f - 1, acc ++ [(p, 2)], rfl, ?_, HO4, HB4, HA4, ?_⟩
                  · have := HS4.out; have := HSZ.out; have := HCC.out; omega
                  · have := HS4.out; have := HSZ.out; have := HCC.out; rw [List.length_append, List.length_singleton]; omega
                case measure =>
                  have := HS4.out; have := HSZ.out; have := HCC.out
                  show (T.extract (p.length + cc) T.size).size < T.size
                  omega
              · have z0 : p.length - 1 < T.size := by have := HSZ.out; have := congrArg List.length hp; simp at this; omega
                have z2 : 0 < p.length := by have := congrArg List.length hp; simp at this; omega
                have z1 : ((p.length:Int) == 0) = false := by rw [beq_eq_false_iff_ne]; omega
                have z3 : (0:Int) ≤ (p.length:Int) - 1 := by omega
                have z4 : (p.length:Int) - 1 < T.size := by have := HSZ.out; omega
                have hx : T[p.length - 1]'z0 = x := by
                  rw [by_at T _ z0, HSP.out, hp]
                  simp [List.getD]
                by_cases hs47 : x = 47
                · have hx47 : (((T[p.length - 1]'z0).toNat : Int) == 47) = true := by rw [hx, hs47]; rfl
                  have HPS := Lib.hid (show slashO p.getLast? = true by rw [hp, hs47]; simp [slashO])
                  clear hx hs47 hp
                  have HW := Lib.hid (show wild p (1 + q.length) ([] : List UInt8) = 2 by unfold wild; rw [if_pos ⟨by have := HCC.out; omega, HPS.out, HRS.out⟩])
                  go_wp2_with (at_builtin; refine wpList_append_own _ rfl (.tmp 75) (.tmp 81) 33 rfl w.heap.size 38 i0 (.agg #[.string ⟨#[]⟩, .int .u8 0]) 2 24 Try.underlying33 hi hz0 hz1 hz2 rfl (by decide) _ acc.length _ rfl (HO.out.alloc _) ⟨wr.heap.size, 0, none⟩ 1 1 [.string (T.extract 0 p.length), .int .u8 2] rfl rfl (fun j u h => news_alloc _ _ _ j u h) (by intro u hu; simp only [List.mem_cons, List.not_mem_nil, or_false] at hu; rcases hu with rfl | rfl <;> rfl) (by unfold maxLen; omega) (by omega) (by have := HB.out.size; simp; omega) ?_)
                  intro v' w2 hown3 hgr _
                  have HB4 := Lib.hid (show Below w.heap.size w w2 from (HB.out.alloc HB.out.size _).grown hgr (by have := HB.out.size; simp; omega) (own_base HO.out))
                  have HO4 := Lib.hid (show w2.ownsRow w.heap.size 38 2 v' (acc ++ [(p, 2)]).length (cells .u8 (acc ++ [(p, 2)])) by
                    rw [cells_app, List.length_append]
                    have ec : cells .u8 [(p, 2)] = [.string (T.extract 0 p.length), .int .u8 2] := by
                      show [Value.string (str p), .int .u8 ((2 : Nat) : Int)] = _
                      rw [← HP.out, str_by, HP.out]; rfl
                    rw [ec]
                    exact hown3)
                  clear hown3 hgr
                  have HA4 := Lib.hid (show (acc ++ [(p, 2)]) ++ parse (f - 1) (by' (T.extract (p.length + cc) T.size)) = parse s.size (by' s) by
                    have hA := HA.out
                    obtain ⟨g, rfl⟩ : ∃ g, f = g + 1 := ⟨f - 1, by have := HSZ.out; have := HCC.out; omega⟩
                    rw [HPF.out g, HW.out] at hA
                    rw [HR.out, ← hA, List.append_assoc]
                    rfl)
                  have HS4 := Lib.hid (show (T.extract (p.length + cc) T.size).size = ([] : List UInt8).length by rw [← by_len, HR.out])
                  go_wp2_with (fail)
                  go_roundw
                  case rel =>
                    refine ⟨_, f - 1, acc ++ [(p, 2)], rfl, ?_, HO4, HB4, HA4, ?_⟩
                    · have := HS4.out; have := HSZ.out; have := HCC.out; omega
                    · have := HS4.out; have := HSZ.out; have := HCC.out; rw [List.length_append, List.length_singleton]; omega
                  case measure =>
                    have := HS4.out; have := HSZ.out; have := HCC.out
                    show (T.extract (p.length + cc) T.size).size < T.size
                    omega
                · have hx47 : (((T[p.length - 1]'z0).toNat : Int) == 47) = false := by
                    rw [hx]
                    have h2 : x.toNat ≠ 47 := fun e => hs47 (UInt8.toNat_inj.1 e)
                    simp; omega
                  by_cases hs92 : x = 92
                  · have hx92 : (((T[p.length - 1]'z0).toNat : Int) == 92) = true := by rw [hx, hs92]; rfl
                    have HPS := Lib.hid (show slashO p.getLast? = true by rw [hp, hs92]; simp [slashO])
                    clear hx hs47 hs92 hp
                    have HW := Lib.hid (show wild p (1 + q.length) ([] : List UInt8) = 2 by unfold wild; rw [if_pos ⟨by have := HCC.out; omega, HPS.out, HRS.out⟩])
                    go_wp2_with (at_builtin; refine wpList_append_own _ rfl (.tmp 75) (.tmp 81) 33 rfl w.heap.size 38 i0 (.agg #[.string ⟨#[]⟩, .int .u8 0]) 2 24 Try.underlying33 hi hz0 hz1 hz2 rfl (by decide) _ acc.length _ rfl (HO.out.alloc _) ⟨wr.heap.size, 0, none⟩ 1 1 [.string (T.extract 0 p.length), .int .u8 2] rfl rfl (fun j u h => news_alloc _ _ _ j u h) (by intro u hu; simp only [List.mem_cons, List.not_mem_nil, or_false] at hu; rcases hu with rfl | rfl <;> rfl) (by unfold maxLen; omega) (by omega) (by have := HB.out.size; simp; omega) ?_)
                    intro v' w2 hown3 hgr _
                    have HB4 := Lib.hid (show Below w.heap.size w w2 from (HB.out.alloc HB.out.size _).grown hgr (by have := HB.out.size; simp; omega) (own_base HO.out))
                    have HO4 := Lib.hid (show w2.ownsRow w.heap.size 38 2 v' (acc ++ [(p, 2)]).length (cells .u8 (acc ++ [(p, 2)])) by
                      rw [cells_app, List.length_append]
                      have ec : cells .u8 [(p, 2)] = [.string (T.extract 0 p.length), .int .u8 2] := by
                        show [Value.string (str p), .int .u8 ((2 : Nat) : Int)] = _
                        rw [← HP.out, str_by, HP.out]; rfl
                      rw [ec]
                      exact hown3)
                    clear hown3 hgr
                    have HA4 := Lib.hid (show (acc ++ [(p, 2)]) ++ parse (f - 1) (by' (T.extract (p.length + cc) T.size)) = parse s.size (by' s) by
                      have hA := HA.out
                      obtain ⟨g, rfl⟩ : ∃ g, f = g + 1 := ⟨f - 1, by have := HSZ.out; have := HCC.out; omega⟩
                      rw [HPF.out g, HW.out] at hA
                      rw [HR.out, ← hA, List.append_assoc]
                      rfl)
                    have HS4 := Lib.hid (show (T.extract (p.length + cc) T.size).size = ([] : List UInt8).length by rw [← by_len, HR.out])
                    go_wp2_with (fail)
                    go_roundw
                    case rel =>
                      refine ⟨_, f - 1, acc ++ [(p, 2)], rfl, ?_, HO4, HB4, HA4, ?_⟩
                      · have := HS4.out; have := HSZ.out; have := HCC.out; omega
                      · have := HS4.out; have := HSZ.out; have := HCC.out; rw [List.length_append, List.length_singleton]; omega
                    case measure =>
                      have := HS4.out; have := HSZ.out; have := HCC.out
                      show (T.extract (p.length + cc) T.size).size < T.size
                      omega
                  · have hx92 : (((T[p.length - 1]'z0).toNat : Int) == 92) = false := by
                      rw [hx]
                      have h2 : x.toNat ≠ 92 := fun e => hs92 (UInt8.toNat_inj.1 e)
                      simp; omega
                    have HPS := Lib.hid (show slashO p.getLast? = false by rw [hp]; simp [slashO, hs47, hs92])
                    clear hx hs47 hs92 hp
                    have HW := Lib.hid (show wild p (1 + q.length) ([] : List UInt8) = 1 by unfold wild; rw [if_neg]; rintro ⟨_, h, _⟩; rw [HPS.out] at h; cases h)
                    go_wp2_with (at_builtin; refine wpList_append_own _ rfl (.tmp 75) (.tmp 81) 33 rfl w.heap.size 38 i0 (.agg #[.string ⟨#[]⟩, .int .u8 0]) 2 24 Try.underlying33 hi hz0 hz1 hz2 rfl (by decide) _ acc.length _ rfl (HO.out.alloc _) ⟨wr.heap.size, 0, none⟩ 1 1 [.string (T.extract 0 p.length), .int .u8 1] rfl rfl (fun j u h => news_alloc _ _ _ j u h) (by intro u hu; simp only [List.mem_cons, List.not_mem_nil, or_false] at hu; rcases hu with rfl | rfl <;> rfl) (by unfold maxLen; omega) (by omega) (by have := HB.out.size; simp; omega) ?_)
                    intro v' w2 hown3 hgr _
                    have HB4 := Lib.hid (show Below w.heap.size w w2 from (HB.out.alloc HB.out.size _).grown hgr (by have := HB.out.size; simp; omega) (own_base HO.out))
                    have HO4 := Lib.hid (show w2.ownsRow w.heap.size 38 2 v' (acc ++ [(p, 1)]).length (cells .u8 (acc ++ [(p, 1)])) by
                      rw [cells_app, List.length_append]
                      have ec : cells .u8 [(p, 1)] = [.string (T.extract 0 p.length), .int .u8 1] := by
                        show [Value.string (str p), .int .u8 ((1 : Nat) : Int)] = _
                        rw [← HP.out, str_by, HP.out]; rfl
                      rw [ec]
                      exact hown3)
                    clear hown3 hgr
                    have HA4 := Lib.hid (show (acc ++ [(p, 1)]) ++ parse (f - 1) (by' (T.extract (p.length + cc) T.size)) = parse s.size (by' s) by
                      have hA := HA.out
                      obtain ⟨g, rfl⟩ : ∃ g, f = g + 1 := ⟨f - 1, by have := HSZ.out; have := HCC.out; omega⟩
                      rw [HPF.out g, HW.out] at hA
                      rw [HR.out, ← hA, List.append_assoc]
                      rfl)
                    have HS4 := Lib.hid (show (T.extract (p.length + cc) T.size).size = ([] : List UInt8).length by rw [← by_len, HR.out])
                    go_wp2_with (fail)
                    go_roundw
                    case rel =>
                      refine ⟨_, f - 1, acc ++ [(p, 1)], rfl, ?_, HO4, HB4, HA4, ?_⟩
                      · have := HS4.out; have := HSZ.out; have := HCC.out; omega
                      · have := HS4.out; have := HSZ.out; have := HCC.out; rw [List.length_append, List.length_singleton]; omega
                    case measure =>
                      have := HS4.out; have := HSZ.out; have := HCC.out
                      show (T.extract (p.length + cc) T.size).size < T.size
                      omega
            · have c1 : ¬ (1:Int) < cc := by omega
              have HW := Lib.hid (show wild p (1 + q.length) ([] : List UInt8) = 1 by unfold wild; rw [if_neg]; rintro ⟨h, _⟩; have := HCC.out; omega)
              go_wp2_with (at_builtin; refine wpList_append_own _ rfl (.tmp 75) (.tmp 81) 33 rfl w.heap.size 38 i0 (.agg #[.string ⟨#[]⟩, .int .u8 0]) 2 24 Try.underlying33 hi hz0 hz1 hz2 rfl (by decide) _ acc.length _ rfl (HO.out.alloc _) ⟨wr.heap.size, 0, none⟩ 1 1 [.string (T.extract 0 p.length), .int .u8 1] rfl rfl (fun j u h => news_alloc _ _ _ j u h) (by intro u hu; simp only [List.mem_cons, List.not_mem_nil, or_false] at hu; rcases hu with rfl | rfl <;> rfl) (by unfold maxLen; omega) (by omega) (by have := HB.out.size; simp; omega) ?_)
              intro v' w2 hown3 hgr _
              have HB4 := Lib.hid (show Below w.heap.size w w2 from (HB.out.alloc HB.out.size _).grown hgr (by have := HB.out.size; simp; omega) (own_base HO.out))
              have HO4 := Lib.hid (show w2.ownsRow w.heap.size 38 2 v' (acc ++ [(p, 1)]).length (cells .u8 (acc ++ [(p, 1)])) by
                rw [cells_app, List.length_append]
                have ec : cells .u8 [(p, 1)] = [.string (T.extract 0 p.length), .int .u8 1] := by
                  show [Value.string (str p), .int .u8 ((1 : Nat) : Int)] = _
                  rw [← HP.out, str_by, HP.out]; rfl
                rw [ec]
                exact hown3)
              clear hown3 hgr
              have HA4 := Lib.hid (show (acc ++ [(p, 1)]) ++ parse (f - 1) (by' (T.extract (p.length + cc) T.size)) = parse s.size (by' s) by
                have hA := HA.out
                obtain ⟨g, rfl⟩ : ∃ g, f = g + 1 := ⟨f - 1, by have := HSZ.out; have := HCC.out; omega⟩
                rw [HPF.out g, HW.out] at hA
                rw [HR.out, ← hA, List.append_assoc]
                rfl)
              have HS4 := Lib.hid (show (T.extract (p.length + cc) T.size).size = ([] : List UInt8).length by rw [← by_len, HR.out])
              go_wp2_with (fail)
              go_roundw
              case rel =>
                refine ⟨_, f - 1, acc ++ [(p, 1)], rfl, ?_, HO4, HB4, HA4, ?_⟩
                · have := HS4.out; have := HSZ.out; have := HCC.out; omega
                · have := HS4.out; have := HSZ.out; have := HCC.out; rw [List.length_append, List.length_singleton]; omega
              case measure =>
                have := HS4.out; have := HSZ.out; have := HCC.out
                show (T.extract (p.length + cc) T.size).size < T.size
                omega
          | cons y r' =>
            subst hr
            have e0 : p.length + cc < T.size := by simp at hsz; omega
            have e1 : (p.length:Int) + cc < T.size := by omega
            have e2 : (((p.length:Int) + cc) == (T.size:Int)) = false := by simp; omega
            have hy : T[p.length + cc]'e0 = y := by rw [by_at T _ e0, hrest]; rfl
            have hy42 : (((T[p.length + cc]'e0).toNat : Int) == 42) = false := by
              rw [hy]
              have h1 : y ≠ 42 := by simpa using HRN.out
              have h2 : y.toNat ≠ 42 := fun e => h1 (UInt8.toNat_inj.1 e)
              simp; omega
            by_cases hs47 : y = 47
            · have hy47 : (((T[p.length + cc]'e0).toNat : Int) == 47) = true := by rw [hy, hs47]; rfl
              have HRS := Lib.hid (show slashO (y :: r').head? = true by rw [hs47]; rfl)
              clear hy hs47
              clear hrest hsz hcc
              by_cases hc1 : 1 < cc
              · have c1 : (1:Int) < cc := by omega
                rcases List.eq_nil_or_concat p with hp | ⟨p', x, hp⟩
                · have z1 : ((p.length:Int) == 0) = true := by rw [hp]; rfl
                  have HPS := Lib.hid (show slashO p.getLast? = true by rw [hp]; rfl)
                  clear hp
                  have HW := Lib.hid (show wild p (1 + q.length) (y :: r') = 2 by unfold wild; rw [if_pos ⟨by have := HCC.out; omega, HPS.out, HRS.out⟩])
                  go_wp2_with (at_builtin; refine wpList_append_own _ rfl (.tmp 75) (.tmp 81) 33 rfl w.heap.size 38 i0 (.agg #[.string ⟨#[]⟩, .int .u8 0]) 2 24 Try.underlying33 hi hz0 hz1 hz2 rfl (by decide) _ acc.length _ rfl (HO.out.alloc _) ⟨wr.heap.size, 0, none⟩ 1 1 [.string (T.extract 0 p.length), .int .u8 2] rfl rfl (fun j u h => news_alloc _ _ _ j u h) (by intro u hu; simp only [List.mem_cons, List.not_mem_nil, or_false] at hu; rcases hu with rfl | rfl <;> rfl) (by unfold maxLen; omega) (by omega) (by have := HB.out.size; simp; omega) ?_)
                  intro v' w2 hown3 hgr _
                  have HB4 := Lib.hid (show Below w.heap.size w w2 from (HB.out.alloc HB.out.size _).grown hgr (by have := HB.out.size; simp; omega) (own_base HO.out))
                  have HO4 := Lib.hid (show w2.ownsRow w.heap.size 38 2 v' (acc ++ [(p, 2)]).length (cells .u8 (acc ++ [(p, 2)])) by
                    rw [cells_app, List.length_append]
                    have ec : cells .u8 [(p, 2)] = [.string (T.extract 0 p.length), .int .u8 2] := by
                      show [Value.string (str p), .int .u8 ((2 : Nat) : Int)] = _
                      rw [← HP.out, str_by, HP.out]; rfl
                    rw [ec]
                    exact hown3)
                  clear hown3 hgr
                  have HA4 := Lib.hid (show (acc ++ [(p, 2)]) ++ parse (f - 1) (by' (T.extract (p.length + cc) T.size)) = parse s.size (by' s) by
                    have hA := HA.out
                    obtain ⟨g, rfl⟩ : ∃ g, f = g + 1 := ⟨f - 1, by have := HSZ.out; have := HCC.out; omega⟩
                    rw [HPF.out g, HW.out] at hA
                    rw [HR.out, ← hA, List.append_assoc]
                    rfl)
                  have HS4 := Lib.hid (show (T.extract (p.length + cc) T.size).size = (y :: r').length by rw [← by_len, HR.out])
                  go_wp2_with (fail)
                  go_roundw
                  case rel =>
                    refine ⟨_, f - 1, acc ++ [(p, 2)], rfl, ?_, HO4, HB4, HA4, ?_⟩
                    · have := HS4.out; have := HSZ.out; have := HCC.out; omega
                    · have := HS4.out; have := HSZ.out; have := HCC.out; rw [List.length_append, List.length_singleton]; omega
                  case measure =>
                    have := HS4.out; have := HSZ.out; have := HCC.out
                    show (T.extract (p.length + cc) T.size).size < T.size
                    omega
                · have z0 : p.length - 1 < T.size := by have := HSZ.out; have := congrArg List.length hp; simp at this; omega
                  have z2 : 0 < p.length := by have := congrArg List.length hp; simp at this; omega
                  have z1 : ((p.length:Int) == 0) = false := by rw [beq_eq_false_iff_ne]; omega
                  have z3 : (0:Int) ≤ (p.length:Int) - 1 := by omega
                  have z4 : (p.length:Int) - 1 < T.size := by have := HSZ.out; omega
                  have hx : T[p.length - 1]'z0 = x := by
                    rw [by_at T _ z0, HSP.out, hp]
                    simp [List.getD]
                  by_cases hs47 : x = 47
                  · have hx47 : (((T[p.length - 1]'z0).toNat : Int) == 47) = true := by rw [hx, hs47]; rfl
                    have HPS := Lib.hid (show slashO p.getLast? = true by rw [hp, hs47]; simp [slashO])
                    clear hx hs47 hp
                    have HW := Lib.hid (show wild p (1 + q.length) (y :: r') = 2 by unfold wild; rw [if_pos ⟨by have := HCC.out; omega, HPS.out, HRS.out⟩])
                    go_wp2_with (at_builtin; refine wpList_append_own _ rfl (.tmp 75) (.tmp 81) 33 rfl w.heap.size 38 i0 (.agg #[.string ⟨#[]⟩, .int .u8 0]) 2 24 Try.underlying33 hi hz0 hz1 hz2 rfl (by decide) _ acc.length _ rfl (HO.out.alloc _) ⟨wr.heap.size, 0, none⟩ 1 1 [.string (T.extract 0 p.length), .int .u8 2] rfl rfl (fun j u h => news_alloc _ _ _ j u h) (by intro u hu; simp only [List.mem_cons, List.not_mem_nil, or_false] at hu; rcases hu with rfl | rfl <;> rfl) (by unfold maxLen; omega) (by omega) (by have := HB.out.size; simp; omega) ?_)
                    intro v' w2 hown3 hgr _
                    have HB4 := Lib.hid (show Below w.heap.size w w2 from (HB.out.alloc HB.out.size _).grown hgr (by have := HB.out.size; simp; omega) (own_base HO.out))
                    have HO4 := Lib.hid (show w2.ownsRow w.heap.size 38 2 v' (acc ++ [(p, 2)]).length (cells .u8 (acc ++ [(p, 2)])) by
                      rw [cells_app, List.length_append]
                      have ec : cells .u8 [(p, 2)] = [.string (T.extract 0 p.length), .int .u8 2] := by
                        show [Value.string (str p), .int .u8 ((2 : Nat) : Int)] = _
                        rw [← HP.out, str_by, HP.out]; rfl
                      rw [ec]
                      exact hown3)
                    clear hown3 hgr
                    have HA4 := Lib.hid (show (acc ++ [(p, 2)]) ++ parse (f - 1) (by' (T.extract (p.length + cc) T.size)) = parse s.size (by' s) by
                      have hA := HA.out
                      obtain ⟨g, rfl⟩ : ∃ g, f = g + 1 := ⟨f - 1, by have := HSZ.out; have := HCC.out; omega⟩
                      rw [HPF.out g, HW.out] at hA
                      rw [HR.out, ← hA, List.append_assoc]
                      rfl)
                    have HS4 := Lib.hid (show (T.extract (p.length + cc) T.size).size = (y :: r').length by rw [← by_len, HR.out])
                    go_wp2_with (fail)
                    go_roundw
                    case rel =>
                      refine ⟨_, f - 1, acc ++ [(p, 2)], rfl, ?_, HO4, HB4, HA4, ?_⟩
                      · have := HS4.out; have := HSZ.out; have := HCC.out; omega
                      · have := HS4.out; have := HSZ.out; have := HCC.out; rw [List.length_append, List.length_singleton]; omega
                    case measure =>
                      have := HS4.out; have := HSZ.out; have := HCC.out
                      show (T.extract (p.length + cc) T.size).size < T.size
                      omega
                  · have hx47 : (((T[p.length - 1]'z0).toNat : Int) == 47) = false := by
                      rw [hx]
                      have h2 : x.toNat ≠ 47 := fun e => hs47 (UInt8.toNat_inj.1 e)
                      simp; omega
                    by_cases hs92 : x = 92
                    · have hx92 : (((T[p.length - 1]'z0).toNat : Int) == 92) = true := by rw [hx, hs92]; rfl
                      have HPS := Lib.hid (show slashO p.getLast? = true by rw [hp, hs92]; simp [slashO])
                      clear hx hs47 hs92 hp
                      have HW := Lib.hid (show wild p (1 + q.length) (y :: r') = 2 by unfold wild; rw [if_pos ⟨by have := HCC.out; omega, HPS.out, HRS.out⟩])
                      go_wp2_with (at_builtin; refine wpList_append_own _ rfl (.tmp 75) (.tmp 81) 33 rfl w.heap.size 38 i0 (.agg #[.string ⟨#[]⟩, .int .u8 0]) 2 24 Try.underlying33 hi hz0 hz1 hz2 rfl (by decide) _ acc.length _ rfl (HO.out.alloc _) ⟨wr.heap.size, 0, none⟩ 1 1 [.string (T.extract 0 p.length), .int .u8 2] rfl rfl (fun j u h => news_alloc _ _ _ j u h) (by intro u hu; simp only [List.mem_cons, List.not_mem_nil, or_false] at hu; rcases hu with rfl | rfl <;> rfl) (by unfold maxLen; omega) (by omega) (by have := HB.out.size; simp; omega) ?_)
                      intro v' w2 hown3 hgr _
                      have HB4 := Lib.hid (show Below w.heap.size w w2 from (HB.out.alloc HB.out.size _).grown hgr (by have := HB.out.size; simp; omega) (own_base HO.out))
                      have HO4 := Lib.hid (show w2.ownsRow w.heap.size 38 2 v' (acc ++ [(p, 2)]).length (cells .u8 (acc ++ [(p, 2)])) by
                        rw [cells_app, List.length_append]
                        have ec : cells .u8 [(p, 2)] = [.string (T.extract 0 p.length), .int .u8 2] := by
                          show [Value.string (str p), .int .u8 ((2 : Nat) : Int)] = _
                          rw [← HP.out, str_by, HP.out]; rfl
                        rw [ec]
                        exact hown3)
                      clear hown3 hgr
                      have HA4 := Lib.hid (show (acc ++ [(p, 2)]) ++ parse (f - 1) (by' (T.extract (p.length + cc) T.size)) = parse s.size (by' s) by
                        have hA := HA.out
                        obtain ⟨g, rfl⟩ : ∃ g, f = g + 1 := ⟨f - 1, by have := HSZ.out; have := HCC.out; omega⟩
                        rw [HPF.out g, HW.out] at hA
                        rw [HR.out, ← hA, List.append_assoc]
                        rfl)
                      have HS4 := Lib.hid (show (T.extract (p.length + cc) T.size).size = (y :: r').length by rw [← by_len, HR.out])
                      go_wp2_with (fail)
                      go_roundw
                      case rel =>
                        refine ⟨_, f - 1, acc ++ [(p, 2)], rfl, ?_, HO4, HB4, HA4, ?_⟩
                        · have := HS4.out; have := HSZ.out; have := HCC.out; omega
                        · have := HS4.out; have := HSZ.out; have := HCC.out; rw [List.length_append, List.length_singleton]; omega
                      case measure =>
                        have := HS4.out; have := HSZ.out; have := HCC.out
                        show (T.extract (p.length + cc) T.size).size < T.size
                        omega
                    · have hx92 : (((T[p.length - 1]'z0).toNat : Int) == 92) = false := by
                        rw [hx]
                        have h2 : x.toNat ≠ 92 := fun e => hs92 (UInt8.toNat_inj.1 e)
                        simp; omega
                      have HPS := Lib.hid (show slashO p.getLast? = false by rw [hp]; simp [slashO, hs47, hs92])
                      clear hx hs47 hs92 hp
                      have HW := Lib.hid (show wild p (1 + q.length) (y :: r') = 1 by unfold wild; rw [if_neg]; rintro ⟨_, h, _⟩; rw [HPS.out] at h; cases h)
                      go_wp2_with (at_builtin; refine wpList_append_own _ rfl (.tmp 75) (.tmp 81) 33 rfl w.heap.size 38 i0 (.agg #[.string ⟨#[]⟩, .int .u8 0]) 2 24 Try.underlying33 hi hz0 hz1 hz2 rfl (by decide) _ acc.length _ rfl (HO.out.alloc _) ⟨wr.heap.size, 0, none⟩ 1 1 [.string (T.extract 0 p.length), .int .u8 1] rfl rfl (fun j u h => news_alloc _ _ _ j u h) (by intro u hu; simp only [List.mem_cons, List.not_mem_nil, or_false] at hu; rcases hu with rfl | rfl <;> rfl) (by unfold maxLen; omega) (by omega) (by have := HB.out.size; simp; omega) ?_)
                      intro v' w2 hown3 hgr _
                      have HB4 := Lib.hid (show Below w.heap.size w w2 from (HB.out.alloc HB.out.size _).grown hgr (by have := HB.out.size; simp; omega) (own_base HO.out))
                      have HO4 := Lib.hid (show w2.ownsRow w.heap.size 38 2 v' (acc ++ [(p, 1)]).length (cells .u8 (acc ++ [(p, 1)])) by
                        rw [cells_app, List.length_append]
                        have ec : cells .u8 [(p, 1)] = [.string (T.extract 0 p.length), .int .u8 1] := by
                          show [Value.string (str p), .int .u8 ((1 : Nat) : Int)] = _
                          rw [← HP.out, str_by, HP.out]; rfl
                        rw [ec]
                        exact hown3)
                      clear hown3 hgr
                      have HA4 := Lib.hid (show (acc ++ [(p, 1)]) ++ parse (f - 1) (by' (T.extract (p.length + cc) T.size)) = parse s.size (by' s) by
                        have hA := HA.out
                        obtain ⟨g, rfl⟩ : ∃ g, f = g + 1 := ⟨f - 1, by have := HSZ.out; have := HCC.out; omega⟩
                        rw [HPF.out g, HW.out] at hA
                        rw [HR.out, ← hA, List.append_assoc]
                        rfl)
                      have HS4 := Lib.hid (show (T.extract (p.length + cc) T.size).size = (y :: r').length by rw [← by_len, HR.out])
                      go_wp2_with (fail)
                      go_roundw
                      case rel =>
                        refine ⟨_, f - 1, acc ++ [(p, 1)], rfl, ?_, HO4, HB4, HA4, ?_⟩
                        · have := HS4.out; have := HSZ.out; have := HCC.out; omega
                        · have := HS4.out; have := HSZ.out; have := HCC.out; rw [List.length_append, List.length_singleton]; omega
                      case measure =>
                        have := HS4.out; have := HSZ.out; have := HCC.out
                        show (T.extract (p.length + cc) T.size).size < T.size
                        omega
              · have c1 : ¬ (1:Int) < cc := by omega
                have HW := Lib.hid (show wild p (1 + q.length) (y :: r') = 1 by unfold wild; rw [if_neg]; rintro ⟨h, _⟩; have := HCC.out; omega)
                go_wp2_with (at_builtin; refine wpList_append_own _ rfl (.tmp 75) (.tmp 81) 33 rfl w.heap.size 38 i0 (.agg #[.string ⟨#[]⟩, .int .u8 0]) 2 24 Try.underlying33 hi hz0 hz1 hz2 rfl (by decide) _ acc.length _ rfl (HO.out.alloc _) ⟨wr.heap.size, 0, none⟩ 1 1 [.string (T.extract 0 p.length), .int .u8 1] rfl rfl (fun j u h => news_alloc _ _ _ j u h) (by intro u hu; simp only [List.mem_cons, List.not_mem_nil, or_false] at hu; rcases hu with rfl | rfl <;> rfl) (by unfold maxLen; omega) (by omega) (by have := HB.out.size; simp; omega) ?_)
                intro v' w2 hown3 hgr _
                have HB4 := Lib.hid (show Below w.heap.size w w2 from (HB.out.alloc HB.out.size _).grown hgr (by have := HB.out.size; simp; omega) (own_base HO.out))
                have HO4 := Lib.hid (show w2.ownsRow w.heap.size 38 2 v' (acc ++ [(p, 1)]).length (cells .u8 (acc ++ [(p, 1)])) by
                  rw [cells_app, List.length_append]
                  have ec : cells .u8 [(p, 1)] = [.string (T.extract 0 p.length), .int .u8 1] := by
                    show [Value.string (str p), .int .u8 ((1 : Nat) : Int)] = _
                    rw [← HP.out, str_by, HP.out]; rfl
                  rw [ec]
                  exact hown3)
                clear hown3 hgr
                have HA4 := Lib.hid (show (acc ++ [(p, 1)]) ++ parse (f - 1) (by' (T.extract (p.length + cc) T.size)) = parse s.size (by' s) by
                  have hA := HA.out
                  obtain ⟨g, rfl⟩ : ∃ g, f = g + 1 := ⟨f - 1, by have := HSZ.out; have := HCC.out; omega⟩
                  rw [HPF.out g, HW.out] at hA
                  rw [HR.out, ← hA, List.append_assoc]
                  rfl)
                have HS4 := Lib.hid (show (T.extract (p.length + cc) T.size).size = (y :: r').length by rw [← by_len, HR.out])
                go_wp2_with (fail)
                go_roundw
                case rel =>
                  refine ⟨_, f - 1, acc ++ [(p, 1)], rfl, ?_, HO4, HB4, HA4, ?_⟩
                  · have := HS4.out; have := HSZ.out; have := HCC.out; omega
                  · have := HS4.out; have := HSZ.out; have := HCC.out; rw [List.length_append, List.length_singleton]; omega
                case measure =>
                  have := HS4.out; have := HSZ.out; have := HCC.out
                  show (T.extract (p.length + cc) T.size).size < T.size
                  omega
            · have hy47 : (((T[p.length + cc]'e0).toNat : Int) == 47) = false := by
                rw [hy]
                have h2 : y.toNat ≠ 47 := fun e => hs47 (UInt8.toNat_inj.1 e)
                simp; omega
              by_cases hs92 : y = 92
              · have hy92 : (((T[p.length + cc]'e0).toNat : Int) == 92) = true := by rw [hy, hs92]; rfl
                have HRS := Lib.hid (show slashO (y :: r').head? = true by rw [hs92]; rfl)
                clear hy hs47 hs92
                clear hrest hsz hcc
                by_cases hc1 : 1 < cc
                · have c1 : (1:Int) < cc := by omega
                  rcases List.eq_nil_or_concat p with hp | ⟨p', x, hp⟩
                  · have z1 : ((p.length:Int) == 0) = true := by rw [hp]; rfl
                    have HPS := Lib.hid (show slashO p.getLast? = true by rw [hp]; rfl)
                    clear hp
                    have HW := Lib.hid (show wild p (1 + q.length) (y :: r') = 2 by unfold wild; rw [if_pos ⟨by have := HCC.out; omega, HPS.out, HRS.out⟩])
                    go_wp2_with (at_builtin; refine wpList_append_own _ rfl (.tmp 75) (.tmp 81) 33 rfl w.heap.size 38 i0 (.agg #[.string ⟨#[]⟩, .int .u8 0]) 2 24 Try.underlying33 hi hz0 hz1 hz2 rfl (by decide) _ acc.length _ rfl (HO.out.alloc _) ⟨wr.heap.size, 0, none⟩ 1 1 [.string (T.extract 0 p.length), .int .u8 2] rfl rfl (fun j u h => news_alloc _ _ _ j u h) (by intro u hu; simp only [List.mem_cons, List.not_mem_nil, or_false] at hu; rcases hu with rfl | rfl <;> rfl) (by unfold maxLen; omega) (by omega) (by have := HB.out.size; simp; omega) ?_)
                    intro v' w2 hown3 hgr _
                    have HB4 := Lib.hid (show Below w.heap.size w w2 from (HB.out.alloc HB.out.size _).grown hgr (by have := HB.out.size; simp; omega) (own_base HO.out))
                    have HO4 := Lib.hid (show w2.ownsRow w.heap.size 38 2 v' (acc ++ [(p, 2)]).length (cells .u8 (acc ++ [(p, 2)])) by
                      rw [cells_app, List.length_append]
                      have ec : cells .u8 [(p, 2)] = [.string (T.extract 0 p.length), .int .u8 2] := by
                        show [Value.string (str p), .int .u8 ((2 : Nat) : Int)] = _
                        rw [← HP.out, str_by, HP.out]; rfl
                      rw [ec]
                      exact hown3)
                    clear hown3 hgr
                    have HA4 := Lib.hid (show (acc ++ [(p, 2)]) ++ parse (f - 1) (by' (T.extract (p.length + cc) T.size)) = parse s.size (by' s) by
                      have hA := HA.out
                      obtain ⟨g, rfl⟩ : ∃ g, f = g + 1 := ⟨f - 1, by have := HSZ.out; have := HCC.out; omega⟩
                      rw [HPF.out g, HW.out] at hA
                      rw [HR.out, ← hA, List.append_assoc]
                      rfl)
                    have HS4 := Lib.hid (show (T.extract (p.length + cc) T.size).size = (y :: r').length by rw [← by_len, HR.out])
                    go_wp2_with (fail)
                    go_roundw
                    case rel =>
                      refine ⟨_, f - 1, acc ++ [(p, 2)], rfl, ?_, HO4, HB4, HA4, ?_⟩
                      · have := HS4.out; have := HSZ.out; have := HCC.out; omega
                      · have := HS4.out; have := HSZ.out; have := HCC.out; rw [List.length_append, List.length_singleton]; omega
                    case measure =>
                      have := HS4.out; have := HSZ.out; have := HCC.out
                      show (T.extract (p.length + cc) T.size).size < T.size
                      omega
                  · have z0 : p.length - 1 < T.size := by have := HSZ.out; have := congrArg List.length hp; simp at this; omega
                    have z2 : 0 < p.length := by have := congrArg List.length hp; simp at this; omega
                    have z1 : ((p.length:Int) == 0) = false := by rw [beq_eq_false_iff_ne]; omega
                    have z3 : (0:Int) ≤ (p.length:Int) - 1 := by omega
                    have z4 : (p.length:Int) - 1 < T.size := by have := HSZ.out; omega
                    have hx : T[p.length - 1]'z0 = x := by
                      rw [by_at T _ z0, HSP.out, hp]
                      simp [List.getD]
                    by_cases hs47 : x = 47
                    · have hx47 : (((T[p.length - 1]'z0).toNat : Int) == 47) = true := by rw [hx, hs47]; rfl
                      have HPS := Lib.hid (show slashO p.getLast? = true by rw [hp, hs47]; simp [slashO])
                      clear hx hs47 hp
                      have HW := Lib.hid (show wild p (1 + q.length) (y :: r') = 2 by unfold wild; rw [if_pos ⟨by have := HCC.out; omega, HPS.out, HRS.out⟩])
                      go_wp2_with (at_builtin; refine wpList_append_own _ rfl (.tmp 75) (.tmp 81) 33 rfl w.heap.size 38 i0 (.agg #[.string ⟨#[]⟩, .int .u8 0]) 2 24 Try.underlying33 hi hz0 hz1 hz2 rfl (by decide) _ acc.length _ rfl (HO.out.alloc _) ⟨wr.heap.size, 0, none⟩ 1 1 [.string (T.extract 0 p.length), .int .u8 2] rfl rfl (fun j u h => news_alloc _ _ _ j u h) (by intro u hu; simp only [List.mem_cons, List.not_mem_nil, or_false] at hu; rcases hu with rfl | rfl <;> rfl) (by unfold maxLen; omega) (by omega) (by have := HB.out.size; simp; omega) ?_)
                      intro v' w2 hown3 hgr _
                      have HB4 := Lib.hid (show Below w.heap.size w w2 from (HB.out.alloc HB.out.size _).grown hgr (by have := HB.out.size; simp; omega) (own_base HO.out))
                      have HO4 := Lib.hid (show w2.ownsRow w.heap.size 38 2 v' (acc ++ [(p, 2)]).length (cells .u8 (acc ++ [(p, 2)])) by
                        rw [cells_app, List.length_append]
                        have ec : cells .u8 [(p, 2)] = [.string (T.extract 0 p.length), .int .u8 2] := by
                          show [Value.string (str p), .int .u8 ((2 : Nat) : Int)] = _
                          rw [← HP.out, str_by, HP.out]; rfl
                        rw [ec]
                        exact hown3)
                      clear hown3 hgr
                      have HA4 := Lib.hid (show (acc ++ [(p, 2)]) ++ parse (f - 1) (by' (T.extract (p.length + cc) T.size)) = parse s.size (by' s) by
                        have hA := HA.out
                        obtain ⟨g, rfl⟩ : ∃ g, f = g + 1 := ⟨f - 1, by have := HSZ.out; have := HCC.out; omega⟩
                        rw [HPF.out g, HW.out] at hA
                        rw [HR.out, ← hA, List.append_assoc]
                        rfl)
                      have HS4 := Lib.hid (show (T.extract (p.length + cc) T.size).size = (y :: r').length by rw [← by_len, HR.out])
                      go_wp2_with (fail)
                      go_roundw
                      case rel =>
                        refine ⟨_, f - 1, acc ++ [(p, 2)], rfl, ?_, HO4, HB4, HA4, ?_⟩
                        · have := HS4.out; have := HSZ.out; have := HCC.out; omega
                        · have := HS4.out; have := HSZ.out; have := HCC.out; rw [List.length_append, List.length_singleton]; omega
                      case measure =>
                        have := HS4.out; have := HSZ.out; have := HCC.out
                        show (T.extract (p.length + cc) T.size).size < T.size
                        omega
                    · have hx47 : (((T[p.length - 1]'z0).toNat : Int) == 47) = false := by
                        rw [hx]
                        have h2 : x.toNat ≠ 47 := fun e => hs47 (UInt8.toNat_inj.1 e)
                        simp; omega
                      by_cases hs92 : x = 92
                      · have hx92 : (((T[p.length - 1]'z0).toNat : Int) == 92) = true := by rw [hx, hs92]; rfl
                        have HPS := Lib.hid (show slashO p.getLast? = true by rw [hp, hs92]; simp [slashO])
                        clear hx hs47 hs92 hp
                        have HW := Lib.hid (show wild p (1 + q.length) (y :: r') = 2 by unfold wild; rw [if_pos ⟨by have := HCC.out; omega, HPS.out, HRS.out⟩])
                        go_wp2_with (at_builtin; refine wpList_append_own _ rfl (.tmp 75) (.tmp 81) 33 rfl w.heap.size 38 i0 (.agg #[.string ⟨#[]⟩, .int .u8 0]) 2 24 Try.underlying33 hi hz0 hz1 hz2 rfl (by decide) _ acc.length _ rfl (HO.out.alloc _) ⟨wr.heap.size, 0, none⟩ 1 1 [.string (T.extract 0 p.length), .int .u8 2] rfl rfl (fun j u h => news_alloc _ _ _ j u h) (by intro u hu; simp only [List.mem_cons, List.not_mem_nil, or_false] at hu; rcases hu with rfl | rfl <;> rfl) (by unfold maxLen; omega) (by omega) (by have := HB.out.size; simp; omega) ?_)
                        intro v' w2 hown3 hgr _
                        have HB4 := Lib.hid (show Below w.heap.size w w2 from (HB.out.alloc HB.out.size _).grown hgr (by have := HB.out.size; simp; omega) (own_base HO.out))
                        have HO4 := Lib.hid (show w2.ownsRow w.heap.size 38 2 v' (acc ++ [(p, 2)]).length (cells .u8 (acc ++ [(p, 2)])) by
                          rw [cells_app, List.length_append]
                          have ec : cells .u8 [(p, 2)] = [.string (T.extract 0 p.length), .int .u8 2] := by
                            show [Value.string (str p), .int .u8 ((2 : Nat) : Int)] = _
                            rw [← HP.out, str_by, HP.out]; rfl
                          rw [ec]
                          exact hown3)
                        clear hown3 hgr
                        have HA4 := Lib.hid (show (acc ++ [(p, 2)]) ++ parse (f - 1) (by' (T.extract (p.length + cc) T.size)) = parse s.size (by' s) by
                          have hA := HA.out
                          obtain ⟨g, rfl⟩ : ∃ g, f = g + 1 := ⟨f - 1, by have := HSZ.out; have := HCC.out; omega⟩
                          rw [HPF.out g, HW.out] at hA
                          rw [HR.out, ← hA, List.append_assoc]
                          rfl)
                        have HS4 := Lib.hid (show (T.extract (p.length + cc) T.size).size = (y :: r').length by rw [← by_len, HR.out])
                        go_wp2_with (fail)
                        go_roundw
                        case rel =>
                          refine ⟨_, f - 1, acc ++ [(p, 2)], rfl, ?_, HO4, HB4, HA4, ?_⟩
                          · have := HS4.out; have := HSZ.out; have := HCC.out; omega
                          · have := HS4.out; have := HSZ.out; have := HCC.out; rw [List.length_append, List.length_singleton]; omega
                        case measure =>
                          have := HS4.out; have := HSZ.out; have := HCC.out
                          show (T.extract (p.length + cc) T.size).size < T.size
                          omega
                      · have hx92 : (((T[p.length - 1]'z0).toNat : Int) == 92) = false := by
                          rw [hx]
                          have h2 : x.toNat ≠ 92 := fun e => hs92 (UInt8.toNat_inj.1 e)
                          simp; omega
                        have HPS := Lib.hid (show slashO p.getLast? = false by rw [hp]; simp [slashO, hs47, hs92])
                        clear hx hs47 hs92 hp
                        have HW := Lib.hid (show wild p (1 + q.length) (y :: r') = 1 by unfold wild; rw [if_neg]; rintro ⟨_, h, _⟩; rw [HPS.out] at h; cases h)
                        go_wp2_with (at_builtin; refine wpList_append_own _ rfl (.tmp 75) (.tmp 81) 33 rfl w.heap.size 38 i0 (.agg #[.string ⟨#[]⟩, .int .u8 0]) 2 24 Try.underlying33 hi hz0 hz1 hz2 rfl (by decide) _ acc.length _ rfl (HO.out.alloc _) ⟨wr.heap.size, 0, none⟩ 1 1 [.string (T.extract 0 p.length), .int .u8 1] rfl rfl (fun j u h => news_alloc _ _ _ j u h) (by intro u hu; simp only [List.mem_cons, List.not_mem_nil, or_false] at hu; rcases hu with rfl | rfl <;> rfl) (by unfold maxLen; omega) (by omega) (by have := HB.out.size; simp; omega) ?_)
                        intro v' w2 hown3 hgr _
                        have HB4 := Lib.hid (show Below w.heap.size w w2 from (HB.out.alloc HB.out.size _).grown hgr (by have := HB.out.size; simp; omega) (own_base HO.out))
                        have HO4 := Lib.hid (show w2.ownsRow w.heap.size 38 2 v' (acc ++ [(p, 1)]).length (cells .u8 (acc ++ [(p, 1)])) by
                          rw [cells_app, List.length_append]
                          have ec : cells .u8 [(p, 1)] = [.string (T.extract 0 p.length), .int .u8 1] := by
                            show [Value.string (str p), .int .u8 ((1 : Nat) : Int)] = _
                            rw [← HP.out, str_by, HP.out]; rfl
                          rw [ec]
                          exact hown3)
                        clear hown3 hgr
                        have HA4 := Lib.hid (show (acc ++ [(p, 1)]) ++ parse (f - 1) (by' (T.extract (p.length + cc) T.size)) = parse s.size (by' s) by
                          have hA := HA.out
                          obtain ⟨g, rfl⟩ : ∃ g, f = g + 1 := ⟨f - 1, by have := HSZ.out; have := HCC.out; omega⟩
                          rw [HPF.out g, HW.out] at hA
                          rw [HR.out, ← hA, List.append_assoc]
                          rfl)
                        have HS4 := Lib.hid (show (T.extract (p.length + cc) T.size).size = (y :: r').length by rw [← by_len, HR.out])
                        go_wp2_with (fail)
                        go_roundw
                        case rel =>
                          refine ⟨_, f - 1, acc ++ [(p, 1)], rfl, ?_, HO4, HB4, HA4, ?_⟩
                          · have := HS4.out; have := HSZ.out; have := HCC.out; omega
                          · have := HS4.out; have := HSZ.out; have := HCC.out; rw [List.length_append, List.length_singleton]; omega
                        case measure =>
                          have := HS4.out; have := HSZ.out; have := HCC.out
                          show (T.extract (p.length + cc) T.size).size < T.size
                          omega
                · have c1 : ¬ (1:Int) < cc := by omega
                  have HW := Lib.hid (show wild p (1 + q.length) (y :: r') = 1 by unfold wild; rw [if_neg]; rintro ⟨h, _⟩; have := HCC.out; omega)
                  go_wp2_with (at_builtin; refine wpList_append_own _ rfl (.tmp 75) (.tmp 81) 33 rfl w.heap.size 38 i0 (.agg #[.string ⟨#[]⟩, .int .u8 0]) 2 24 Try.underlying33 hi hz0 hz1 hz2 rfl (by decide) _ acc.length _ rfl (HO.out.alloc _) ⟨wr.heap.size, 0, none⟩ 1 1 [.string (T.extract 0 p.length), .int .u8 1] rfl rfl (fun j u h => news_alloc _ _ _ j u h) (by intro u hu; simp only [List.mem_cons, List.not_mem_nil, or_false] at hu; rcases hu with rfl | rfl <;> rfl) (by unfold maxLen; omega) (by omega) (by have := HB.out.size; simp; omega) ?_)
                  intro v' w2 hown3 hgr _
                  have HB4 := Lib.hid (show Below w.heap.size w w2 from (HB.out.alloc HB.out.size _).grown hgr (by have := HB.out.size; simp; omega) (own_base HO.out))
                  have HO4 := Lib.hid (show w2.ownsRow w.heap.size 38 2 v' (acc ++ [(p, 1)]).length (cells .u8 (acc ++ [(p, 1)])) by
                    rw [cells_app, List.length_append]
                    have ec : cells .u8 [(p, 1)] = [.string (T.extract 0 p.length), .int .u8 1] := by
                      show [Value.string (str p), .int .u8 ((1 : Nat) : Int)] = _
                      rw [← HP.out, str_by, HP.out]; rfl
                    rw [ec]
                    exact hown3)
                  clear hown3 hgr
                  have HA4 := Lib.hid (show (acc ++ [(p, 1)]) ++ parse (f - 1) (by' (T.extract (p.length + cc) T.size)) = parse s.size (by' s) by
                    have hA := HA.out
                    obtain ⟨g, rfl⟩ : ∃ g, f = g + 1 := ⟨f - 1, by have := HSZ.out; have := HCC.out; omega⟩
                    rw [HPF.out g, HW.out] at hA
                    rw [HR.out, ← hA, List.append_assoc]
                    rfl)
                  have HS4 := Lib.hid (show (T.extract (p.length + cc) T.size).size = (y :: r').length by rw [← by_len, HR.out])
                  go_wp2_with (fail)
                  go_roundw
                  case rel =>
                    refine ⟨_, f - 1, acc ++ [(p, 1)], rfl, ?_, HO4, HB4, HA4, ?_⟩
                    · have := HS4.out; have := HSZ.out; have := HCC.out; omega
                    · have := HS4.out; have := HSZ.out; have := HCC.out; rw [List.length_append, List.length_singleton]; omega
                  case measure =>
                    have := HS4.out; have := HSZ.out; have := HCC.out
                    show (T.extract (p.length + cc) T.size).size < T.size
                    omega
              · have hy92 : (((T[p.length + cc]'e0).toNat : Int) == 92) = false := by
                  rw [hy]
                  have h2 : y.toNat ≠ 92 := fun e => hs92 (UInt8.toNat_inj.1 e)
                  simp; omega
                have HRS := Lib.hid (show slashO (y :: r').head? = false by simp [slashO, hs47, hs92])
                clear hy hs47 hs92
                clear hrest hsz hcc
                by_cases hc1 : 1 < cc
                · have c1 : (1:Int) < cc := by omega
                  rcases List.eq_nil_or_concat p with hp | ⟨p', x, hp⟩
                  · have z1 : ((p.length:Int) == 0) = true := by rw [hp]; rfl
                    have HPS := Lib.hid (show slashO p.getLast? = true by rw [hp]; rfl)
                    clear hp
                    have HW := Lib.hid (show wild p (1 + q.length) (y :: r') = 1 by unfold wild; rw [if_neg]; rintro ⟨_, _, h⟩; rw [HRS.out] at h; cases h)
                    go_wp2_with (at_builtin; refine wpList_append_own _ rfl (.tmp 75) (.tmp 81) 33 rfl w.heap.size 38 i0 (.agg #[.string ⟨#[]⟩, .int .u8 0]) 2 24 Try.underlying33 hi hz0 hz1 hz2 rfl (by decide) _ acc.length _ rfl (HO.out.alloc _) ⟨wr.heap.size, 0, none⟩ 1 1 [.string (T.extract 0 p.length), .int .u8 1] rfl rfl (fun j u h => news_alloc _ _ _ j u h) (by intro u hu; simp only [List.mem_cons, List.not_mem_nil, or_false] at hu; rcases hu with rfl | rfl <;> rfl) (by unfold maxLen; omega) (by omega) (by have := HB.out.size; simp; omega) ?_)
                    intro v' w2 hown3 hgr _
                    have HB4 := Lib.hid (show Below w.heap.size w w2 from (HB.out.alloc HB.out.size _).grown hgr (by have := HB.out.size; simp; omega) (own_base HO.out))
                    have HO4 := Lib.hid (show w2.ownsRow w.heap.size 38 2 v' (acc ++ [(p, 1)]).length (cells .u8 (acc ++ [(p, 1)])) by
                      rw [cells_app, List.length_append]
                      have ec : cells .u8 [(p, 1)] = [.string (T.extract 0 p.length), .int .u8 1] := by
                        show [Value.string (str p), .int .u8 ((1 : Nat) : Int)] = _
                        rw [← HP.out, str_by, HP.out]; rfl
                      rw [ec]
                      exact hown3)
                    clear hown3 hgr
                    have HA4 := Lib.hid (show (acc ++ [(p, 1)]) ++ parse (f - 1) (by' (T.extract (p.length + cc) T.size)) = parse s.size (by' s) by
                      have hA := HA.out
                      obtain ⟨g, rfl⟩ : ∃ g, f = g + 1 := ⟨f - 1, by have := HSZ.out; have := HCC.out; omega⟩
                      rw [HPF.out g, HW.out] at hA
                      rw [HR.out, ← hA, List.append_assoc]
                      rfl)
                    have HS4 := Lib.hid (show (T.extract (p.length + cc) T.size).size = (y :: r').length by rw [← by_len, HR.out])
                    go_wp2_with (fail)
                    go_roundw
                    case rel =>
                      refine ⟨_, f - 1, acc ++ [(p, 1)], rfl, ?_, HO4, HB4, HA4, ?_⟩
                      · have := HS4.out; have := HSZ.out; have := HCC.out; omega
                      · have := HS4.out; have := HSZ.out; have := HCC.out; rw [List.length_append, List.length_singleton]; omega
                    case measure =>
                      have := HS4.out; have := HSZ.out; have := HCC.out
                      show (T.extract (p.length + cc) T.size).size < T.size
                      omega
                  · have z0 : p.length - 1 < T.size := by have := HSZ.out; have := congrArg List.length hp; simp at this; omega
                    have z2 : 0 < p.length := by have := congrArg List.length hp; simp at this; omega
                    have z1 : ((p.length:Int) == 0) = false := by rw [beq_eq_false_iff_ne]; omega
                    have z3 : (0:Int) ≤ (p.length:Int) - 1 := by omega
                    have z4 : (p.length:Int) - 1 < T.size := by have := HSZ.out; omega
                    have hx : T[p.length - 1]'z0 = x := by
                      rw [by_at T _ z0, HSP.out, hp]
                      simp [List.getD]
                    by_cases hs47 : x = 47
                    · have hx47 : (((T[p.length - 1]'z0).toNat : Int) == 47) = true := by rw [hx, hs47]; rfl
                      have HPS := Lib.hid (show slashO p.getLast? = true by rw [hp, hs47]; simp [slashO])
                      clear hx hs47 hp
                      have HW := Lib.hid (show wild p (1 + q.length) (y :: r') = 1 by unfold wild; rw [if_neg]; rintro ⟨_, _, h⟩; rw [HRS.out] at h; cases h)
                      go_wp2_with (at_builtin; refine wpList_append_own _ rfl (.tmp 75) (.tmp 81) 33 rfl w.heap.size 38 i0 (.agg #[.string ⟨#[]⟩, .int .u8 0]) 2 24 Try.underlying33 hi hz0 hz1 hz2 rfl (by decide) _ acc.length _ rfl (HO.out.alloc _) ⟨wr.heap.size, 0, none⟩ 1 1 [.string (T.extract 0 p.length), .int .u8 1] rfl rfl (fun j u h => news_alloc _ _ _ j u h) (by intro u hu; simp only [List.mem_cons, List.not_mem_nil, or_false] at hu; rcases hu with rfl | rfl <;> rfl) (by unfold maxLen; omega) (by omega) (by have := HB.out.size; simp; omega) ?_)
                      intro v' w2 hown3 hgr _
                      have HB4 := Lib.hid (show Below w.heap.size w w2 from (HB.out.alloc HB.out.size _).grown hgr (by have := HB.out.size; simp; omega) (own_base HO.out))
                      have HO4 := Lib.hid (show w2.ownsRow w.heap.size 38 2 v' (acc ++ [(p, 1)]).length (cells .u8 (acc ++ [(p, 1)])) by
                        rw [cells_app, List.length_append]
                        have ec : cells .u8 [(p, 1)] = [.string (T.extract 0 p.length), .int .u8 1] := by
                          show [Value.string (str p), .int .u8 ((1 : Nat) : Int)] = _
                          rw [← HP.out, str_by, HP.out]; rfl
                        rw [ec]
                        exact hown3)
                      clear hown3 hgr
                      have HA4 := Lib.hid (show (acc ++ [(p, 1)]) ++ parse (f - 1) (by' (T.extract (p.length + cc) T.size)) = parse s.size (by' s) by
                        have hA := HA.out
                        obtain ⟨g, rfl⟩ : ∃ g, f = g + 1 := ⟨f - 1, by have := HSZ.out; have := HCC.out; omega⟩
                        rw [HPF.out g, HW.out] at hA
                        rw [HR.out, ← hA, List.append_assoc]
                        rfl)
                      have HS4 := Lib.hid (show (T.extract (p.length + cc) T.size).size = (y :: r').length by rw [← by_len, HR.out])
                      go_wp2_with (fail)
                      go_roundw
                      case rel =>
                        refine ⟨_, f - 1, acc ++ [(p, 1)], rfl, ?_, HO4, HB4, HA4, ?_⟩
                        · have := HS4.out; have := HSZ.out; have := HCC.out; omega
                        · have := HS4.out; have := HSZ.out; have := HCC.out; rw [List.length_append, List.length_singleton]; omega
                      case measure =>
                        have := HS4.out; have := HSZ.out; have := HCC.out
                        show (T.extract (p.length + cc) T.size).size < T.size
                        omega
                    · have hx47 : (((T[p.length - 1]'z0).toNat : Int) == 47) = false := by
                        rw [hx]
                        have h2 : x.toNat ≠ 47 := fun e => hs47 (UInt8.toNat_inj.1 e)
                        simp; omega
                      by_cases hs92 : x = 92
                      · have hx92 : (((T[p.length - 1]'z0).toNat : Int) == 92) = true := by rw [hx, hs92]; rfl
                        have HPS := Lib.hid (show slashO p.getLast? = true by rw [hp, hs92]; simp [slashO])
                        clear hx hs47 hs92 hp
                        have HW := Lib.hid (show wild p (1 + q.length) (y :: r') = 1 by unfold wild; rw [if_neg]; rintro ⟨_, _, h⟩; rw [HRS.out] at h; cases h)
                        go_wp2_with (at_builtin; refine wpList_append_own _ rfl (.tmp 75) (.tmp 81) 33 rfl w.heap.size 38 i0 (.agg #[.string ⟨#[]⟩, .int .u8 0]) 2 24 Try.underlying33 hi hz0 hz1 hz2 rfl (by decide) _ acc.length _ rfl (HO.out.alloc _) ⟨wr.heap.size, 0, none⟩ 1 1 [.string (T.extract 0 p.length), .int .u8 1] rfl rfl (fun j u h => news_alloc _ _ _ j u h) (by intro u hu; simp only [List.mem_cons, List.not_mem_nil, or_false] at hu; rcases hu with rfl | rfl <;> rfl) (by unfold maxLen; omega) (by omega) (by have := HB.out.size; simp; omega) ?_)
                        intro v' w2 hown3 hgr _
                        have HB4 := Lib.hid (show Below w.heap.size w w2 from (HB.out.alloc HB.out.size _).grown hgr (by have := HB.out.size; simp; omega) (own_base HO.out))
                        have HO4 := Lib.hid (show w2.ownsRow w.heap.size 38 2 v' (acc ++ [(p, 1)]).length (cells .u8 (acc ++ [(p, 1)])) by
                          rw [cells_app, List.length_append]
                          have ec : cells .u8 [(p, 1)] = [.string (T.extract 0 p.length), .int .u8 1] := by
                            show [Value.string (str p), .int .u8 ((1 : Nat) : Int)] = _
                            rw [← HP.out, str_by, HP.out]; rfl
                          rw [ec]
                          exact hown3)
                        clear hown3 hgr
                        have HA4 := Lib.hid (show (acc ++ [(p, 1)]) ++ parse (f - 1) (by' (T.extract (p.length + cc) T.size)) = parse s.size (by' s) by
                          have hA := HA.out
                          obtain ⟨g, rfl⟩ : ∃ g, f = g + 1 := ⟨f - 1, by have := HSZ.out; have := HCC.out; omega⟩
                          rw [HPF.out g, HW.out] at hA
                          rw [HR.out, ← hA, List.append_assoc]
                          rfl)
                        have HS4 := Lib.hid (show (T.extract (p.length + cc) T.size).size = (y :: r').length by rw [← by_len, HR.out])
                        go_wp2_with (fail)
                        go_roundw
                        case rel =>
                          refine ⟨_, f - 1, acc ++ [(p, 1)], rfl, ?_, HO4, HB4, HA4, ?_⟩
                          · have := HS4.out; have := HSZ.out; have := HCC.out; omega
                          · have := HS4.out; have := HSZ.out; have := HCC.out; rw [List.length_append, List.length_singleton]; omega
                        case measure =>
                          have := HS4.out; have := HSZ.out; have := HCC.out
                          show (T.extract (p.length + cc) T.size).size < T.size
                          omega
                      · have hx92 : (((T[p.length - 1]'z0).toNat : Int) == 92) = false := by
                          rw [hx]
                          have h2 : x.toNat ≠ 92 := fun e => hs92 (UInt8.toNat_inj.1 e)
                          simp; omega
                        have HPS := Lib.hid (show slashO p.getLast? = false by rw [hp]; simp [slashO, hs47, hs92])
                        clear hx hs47 hs92 hp
                        have HW := Lib.hid (show wild p (1 + q.length) (y :: r') = 1 by unfold wild; rw [if_neg]; rintro ⟨_, h, _⟩; rw [HPS.out] at h; cases h)
                        go_wp2_with (at_builtin; refine wpList_append_own _ rfl (.tmp 75) (.tmp 81) 33 rfl w.heap.size 38 i0 (.agg #[.string ⟨#[]⟩, .int .u8 0]) 2 24 Try.underlying33 hi hz0 hz1 hz2 rfl (by decide) _ acc.length _ rfl (HO.out.alloc _) ⟨wr.heap.size, 0, none⟩ 1 1 [.string (T.extract 0 p.length), .int .u8 1] rfl rfl (fun j u h => news_alloc _ _ _ j u h) (by intro u hu; simp only [List.mem_cons, List.not_mem_nil, or_false] at hu; rcases hu with rfl | rfl <;> rfl) (by unfold maxLen; omega) (by omega) (by have := HB.out.size; simp; omega) ?_)
                        intro v' w2 hown3 hgr _
                        have HB4 := Lib.hid (show Below w.heap.size w w2 from (HB.out.alloc HB.out.size _).grown hgr (by have := HB.out.size; simp; omega) (own_base HO.out))
                        have HO4 := Lib.hid (show w2.ownsRow w.heap.size 38 2 v' (acc ++ [(p, 1)]).length (cells .u8 (acc ++ [(p, 1)])) by
                          rw [cells_app, List.length_append]
                          have ec : cells .u8 [(p, 1)] = [.string (T.extract 0 p.length), .int .u8 1] := by
                            show [Value.string (str p), .int .u8 ((1 : Nat) : Int)] = _
                            rw [← HP.out, str_by, HP.out]; rfl
                          rw [ec]
                          exact hown3)
                        clear hown3 hgr
                        have HA4 := Lib.hid (show (acc ++ [(p, 1)]) ++ parse (f - 1) (by' (T.extract (p.length + cc) T.size)) = parse s.size (by' s) by
                          have hA := HA.out
                          obtain ⟨g, rfl⟩ : ∃ g, f = g + 1 := ⟨f - 1, by have := HSZ.out; have := HCC.out; omega⟩
                          rw [HPF.out g, HW.out] at hA
                          rw [HR.out, ← hA, List.append_assoc]
                          rfl)
                        have HS4 := Lib.hid (show (T.extract (p.length + cc) T.size).size = (y :: r').length by rw [← by_len, HR.out])
                        go_wp2_with (fail)
                        go_roundw
                        case rel =>
                          refine ⟨_, f - 1, acc ++ [(p, 1)], rfl, ?_, HO4, HB4, HA4, ?_⟩
                          · have := HS4.out; have := HSZ.out; have := HCC.out; omega
                          · have := HS4.out; have := HSZ.out; have := HCC.out; rw [List.length_append, List.length_singleton]; omega
                        case measure =>
                          have := HS4.out; have := HSZ.out; have := HCC.out
                          show (T.extract (p.length + cc) T.size).size < T.size
                          omega
                · have c1 : ¬ (1:Int) < cc := by omega
                  have HW := Lib.hid (show wild p (1 + q.length) (y :: r') = 1 by unfold wild; rw [if_neg]; rintro ⟨h, _⟩; have := HCC.out; omega)
                  go_wp2_with (at_builtin; refine wpList_append_own _ rfl (.tmp 75) (.tmp 81) 33 rfl w.heap.size 38 i0 (.agg #[.string ⟨#[]⟩, .int .u8 0]) 2 24 Try.underlying33 hi hz0 hz1 hz2 rfl (by decide) _ acc.length _ rfl (HO.out.alloc _) ⟨wr.heap.size, 0, none⟩ 1 1 [.string (T.extract 0 p.length), .int .u8 1] rfl rfl (fun j u h => news_alloc _ _ _ j u h) (by intro u hu; simp only [List.mem_cons, List.not_mem_nil, or_false] at hu; rcases hu with rfl | rfl <;> rfl) (by unfold maxLen; omega) (by omega) (by have := HB.out.size; simp; omega) ?_)
                  intro v' w2 hown3 hgr _
                  have HB4 := Lib.hid (show Below w.heap.size w w2 from (HB.out.alloc HB.out.size _).grown hgr (by have := HB.out.size; simp; omega) (own_base HO.out))
                  have HO4 := Lib.hid (show w2.ownsRow w.heap.size 38 2 v' (acc ++ [(p, 1)]).length (cells .u8 (acc ++ [(p, 1)])) by
                    rw [cells_app, List.length_append]
                    have ec : cells .u8 [(p, 1)] = [.string (T.extract 0 p.length), .int .u8 1] := by
                      show [Value.string (str p), .int .u8 ((1 : Nat) : Int)] = _
                      rw [← HP.out, str_by, HP.out]; rfl
                    rw [ec]
                    exact hown3)
                  clear hown3 hgr
                  have HA4 := Lib.hid (show (acc ++ [(p, 1)]) ++ parse (f - 1) (by' (T.extract (p.length + cc) T.size)) = parse s.size (by' s) by
                    have hA := HA.out
                    obtain ⟨g, rfl⟩ : ∃ g, f = g + 1 := ⟨f - 1, by have := HSZ.out; have := HCC.out; omega⟩
                    rw [HPF.out g, HW.out] at hA
                    rw [HR.out, ← hA, List.append_assoc]
                    rfl)
                  have HS4 := Lib.hid (show (T.extract (p.length + cc) T.size).size = (y :: r').length by rw [← by_len, HR.out])
                  go_wp2_with (fail)
                  go_roundw
                  case rel =>
                    refine ⟨_, f - 1, acc ++ [(p, 1)], rfl, ?_, HO4, HB4, HA4, ?_⟩
                    · have := HS4.out; have := HSZ.out; have := HCC.out; omega
                    · have := HS4.out; have := HSZ.out; have := HCC.out; rw [List.length_append, List.length_singleton]; omega
                  case measure =>
                    have := HS4.out; have := HSZ.out; have := HCC.out
                    show (T.extract (p.length + cc) T.size).size < T.size
                    omega
end Go.Proofs.YtapbhbhaandedaaRRR.fnGlobBack
