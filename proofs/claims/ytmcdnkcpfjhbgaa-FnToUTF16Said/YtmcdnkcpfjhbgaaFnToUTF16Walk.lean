/-
  The walk of helpers.StringToUTF16 for FnToUTF16: it hands back the code units of the text, code point by code point as the range over the string gives them.
  Conditions: texts of at most 2^31 - 1 bytes.
-/
import Derived.Test.YtmcdnkcpfjhbgaaRows
import Derived.Test.YtmcdnkcpfjhbgaaWWords
import Derived.WalkKit
import Derived.Lib.OthersKept
import Derived.Lib.Hide
import Derived.Lib.RuneCount
import Derived.WalkSmall
namespace Go.Proofs.Ytmcdnkcpfjhbgaa.fnToUTF16
open Go.RowKit Go.Proofs.YtmcdnkcpfjhbgaaW.PrintWords
set_option linter.unusedVariables false

/-- a code point's code units, as helpers.StringToUTF16 makes them -/
def enc (c : Nat) : List Int := if c ≤ 65535 then [(c : Int)] else [55296 + ((c : Int) - 65536) / 1024 % 1024, 56320 + ((c : Int) - 65536) % 1024]
def uFrom (s : ByteArray) : Nat → Nat → List Int
  | 0, _ => []
  | fuel + 1, pos => if pos < s.size then enc (Utf8.decode s pos).1 ++ uFrom s fuel (pos + (Utf8.decode s pos).2) else []
def units (s : ByteArray) : List Int := uFrom s s.size 0

theorem uFrom_end (s : ByteArray) (fuel pos : Nat) (h : ¬ pos < s.size) : uFrom s fuel pos = [] := by
  cases fuel with
  | zero => rfl
  | succ f => simp [uFrom, h]

theorem decode_wide (s : ByteArray) (pos : Nat) (h : pos < s.size) (hc : ¬ (Utf8.decode s pos).1 ≤ 65535) : (Utf8.decode s pos).2 = 4 ∧ (Utf8.decode s pos).1 ≤ 1114111 := by
  revert hc
  simp only [Utf8.decode]
  repeat' split
  all_goals (simp_all [Utf8.runeError, Utf8.valid]; try omega)

theorem info64 : (Try.prog.info? 64).map (fun i => (i.zero, i.size, i.bytes)) = some (some (.int .u16 0), 1, 2) := by kernel_rfl

def cells16 (zs : List Int) : List Value := zs.map (Value.int .u16)

/-- what a function that makes code units hands back -/
def Units (us : List Int) (w : World) (e : Ending) (w' : World) : Prop := ∃ v, e = .returned v ∧ w'.ownsRow w.heap.size 64 1 v us.length (cells16 us) ∧ Below w.heap.size w w'

theorem own_iter {w : World} {base : Nat} {e : TypeId} {size n k p : Nat} {v : Value} {xs : List Value} {s : ByteArray} (h : w.ownsRow base e size v n xs) (hit : w.heap[k]? = some (.stringIter s p)) (p' : Nat) : (w.iterAt k s p').ownsRow base e size v n xs :=
  own_move h (fun j hj => Lib.iterAt_other _ _ _ _ _ (by
    rintro rfl
    obtain ⟨cs, hc⟩ := own_typed h _ hj
    rw [hit] at hc
    cases hc))

theorem own_ne_iter {w : World} {base : Nat} {e : TypeId} {size n k p : Nat} {v : Value} {xs : List Value} {s : ByteArray} (h : w.ownsRow base e size v n xs) (hit : w.heap[k]? = some (.stringIter s p)) : some k ≠ v.ownBlock := by
  intro hk
  obtain ⟨cs, hc⟩ := own_typed h _ hk.symm
  rw [hit] at hc
  cases hc

theorem news_alloc (w : World) (cs : List Value) (t : TypeId) (j : Nat) (u : Value) (h : cs[j]? = some u) : (w.alloc (.cells cs.toArray t)).cell? ((⟨w.heap.size, 0, none⟩ : Addr).add j) = some u := by
  have e : (⟨w.heap.size, 0, none⟩ : Addr).add j = ⟨w.heap.size, j, none⟩ := by unfold Addr.add; split <;> simp_all
  rw [e, blk_cell (heap_alloc_new w _) j]
  simpa using h

/-- what one round does: m units more, the iterator n bytes on -/
theorem round_rel {s : ByteArray} {w wr w2 : World} {it pos n : Nat} {v : Value} {acc : List Int} {o : Obj}
    (hit2 : (wr.iterAt it s (pos + n)).heap[it]? = some (.stringIter s (pos + n))) (hbw2 : Below w.heap.size w (wr.iterAt it s (pos + n)))
    (hown2 : (wr.iterAt it s (pos + n)).ownsRow w.heap.size 64 1 v acc.length (cells16 acc)) (hg : ((wr.iterAt it s (pos + n)).alloc o).grownBy w2 v.ownBlock) :
    w2.heap[it]? = some (.stringIter s (pos + n)) ∧ Below w.heap.size w w2 := by
  have hne := own_ne_iter hown2 hit2
  exact ⟨blk_grown (blk_alloc hit2 o) hg hne, (hbw2.alloc hbw2.size o).grown hg (by have := hbw2.size; simp; omega) (own_base hown2)⟩

theorem hi_unit (c : Int) (h1 : 65536 ≤ c) (h2 : c ≤ 1114111) : IntKind.u16.wrap (wrap32 (55296 + bits .and .i32 ((c - 65536) / 1024) 1023)) = 55296 + (c - 65536) / 1024 % 1024 := by
  have e : bits .and .i32 ((c - 65536) / 1024) 1023 = (c - 65536) / 1024 % 1024 := bits_mask .i32 31 (by decide) wraps_i32 10 (by decide) ((c - 65536) / 1024) (by omega) (by omega)
  rw [e]
  have e2 : wrap32 (55296 + (c - 65536) / 1024 % 1024) = 55296 + (c - 65536) / 1024 % 1024 := by unfold wrap32; omega
  rw [e2]
  simp only [IntKind.wrap, IntKind.signed, IntKind.bits]
  simp
  omega
theorem lo_unit (c : Int) (h1 : 65536 ≤ c) (h2 : c ≤ 1114111) : IntKind.u16.wrap (wrap32 (56320 + bits .and .i32 (c - 65536) 1023)) = 56320 + (c - 65536) % 1024 := by
  have e : bits .and .i32 (c - 65536) 1023 = (c - 65536) % 1024 := bits_mask .i32 31 (by decide) wraps_i32 10 (by decide) (c - 65536) (by omega) (by omega)
  rw [e]
  have e2 : wrap32 (56320 + (c - 65536) % 1024) = 56320 + (c - 65536) % 1024 := by unfold wrap32; omega
  rw [e2]
  simp only [IntKind.wrap, IntKind.signed, IntKind.bits]
  simp
  omega

set_option maxHeartbeats 4000000 in
set_option maxRecDepth 100000 in
theorem toUnits (s : ByteArray) (w : World) (hs : s.size ≤ 2147483647) : Calls Try.prog 27 #[.string s] w fun e w' => Units (units s) w e w' := by
  obtain ⟨i0, hi, hz0, hz1, hz2⟩ := info_parts info64
  obtain ⟨W1, hmk, hown1, hgr1⟩ := run_make_own (P := Try.prog) w w.heap.size 28 64 i0 (.int .u16 0) 1 Try.underlying28 hi hz0 hz1 .i64 .i64 s.size (by rw [hz2]; omega) (by unfold maxLen; omega) (Nat.le_refl _)
  have hb1 : Below w.heap.size w W1 := (Below.refl _ _).grown hgr1 (Nat.le_refl _) (by simp)
  go_enter Try.func27, Try.ntmps27
  go_wp2
  go_loopw [3] (fun v wr => ∃ (pos fuel : Nat) (acc : List Int), wr.ownsRow w.heap.size 64 1 v acc.length (cells16 acc) ∧ wr.heap[W1.heap.size]? = some (.stringIter s pos) ∧ Below w.heap.size w wr ∧ acc ++ uFrom s fuel pos = units s ∧ s.size ≤ pos + fuel ∧ acc.length ≤ pos) (fun _ wr => s.size - wr.iterPos W1.heap.size)
  case atStart =>
    refine ⟨0, s.size, [], ?_, World.iter_heap W1 s 0, ?_, rfl, by omega, by simp⟩
    · exact hown1.alloc (.stringIter s 0)
    · exact hb1.alloc hb1.size (.stringIter s 0)
  case round =>
    obtain ⟨pos, fuel, acc, hown, hit, hbw, hacc, hfu, hal⟩ := hrel
    have hsz : W1.heap.size < wr.heap.size := (Array.getElem?_eq_some_iff.1 hit).1
    have hwB : w.heap.size ≤ W1.heap.size := hb1.size
    by_cases hp : pos < s.size
    · obtain ⟨⟨c, n⟩, hdec⟩ : ∃ d, Utf8.decode s pos = d := ⟨_, rfl⟩
      have hnx : ∀ ty, (Instr.next (.pointer (some ⟨W1.heap.size, 0, none⟩)) true ty).run Try.prog wr = _ := fun ty => Lib.run_next_any_at wr W1.heap.size s pos ty hit hp
      have hwd := Lib.decode_width_pos s pos hp
      have hwide := decode_wide s pos hp
      have hown2 := own_iter hown hit (pos + n)
      have hit2 := Lib.iterAt_heap wr W1.heap.size s pos (pos + n) hit
      have hbw2 := Lib.below_iterAt hbw (k := W1.heap.size) hwB s (pos + n)
      have hsz2 : (wr.iterAt W1.heap.size s (pos + n)).heap.size = wr.heap.size := Lib.iterAt_size _ _ _ _
      rw [hdec] at hnx hwd hwide
      simp only at hnx hwd hwide
      have HD := Lib.hid hdec
      have HO := Lib.hid hown2
      have HIT := Lib.hid hit2
      have HB := Lib.hid hbw2
      have HA := Lib.hid hacc
      have HSZ := Lib.hid hsz2
      clear hdec hown2 hit2 hbw2 hacc hsz2
      by_cases hc : c ≤ 65535
      · clear hwide
        have hcI : (c : Int) ≤ 65535 := by omega
        go_wp2_with (at_builtin; refine wpList_append_own _ rfl (.tmp 16) (.tmp 19) 28 rfl w.heap.size 64 i0 (.int .u16 0) 1 2 Try.underlying28 hi hz0 hz1 hz2 rfl (by decide) _ acc.length _ rfl (HO.out.alloc _) ⟨(wr.iterAt W1.heap.size s (pos + n)).heap.size, 0, none⟩ 1 1 [.int .u16 c] rfl rfl ?c1 ?c2 ?c3 ?c4 ?c5 ?_)
        case c1 => exact fun j u h => news_alloc _ _ _ j u h
        case c2 => intro u hu; simp only [List.mem_singleton] at hu; subst hu; rfl
        case c3 => unfold maxLen; omega
        case c4 => omega
        case c5 => have := HB.out.size; simp; omega
        intro v' w2 hown3 hgr _
        have hr := round_rel HIT.out HB.out HO.out hgr
        have HR := Lib.hid hr
        have HO3 := Lib.hid hown3
        clear hr hown3 hgr
        go_wp2
        go_roundw
        case rel =>
          refine ⟨pos + n, fuel - 1, acc ++ [(c : Int)], ?_, HR.out.1, HR.out.2, ?_, by omega, by simp; omega⟩
          · have := HO3.out
            simpa [cells16] using this
          · rw [← HA.out, List.append_assoc]
            congr 1
            obtain ⟨f, rfl⟩ : ∃ f, fuel = f + 1 := ⟨fuel - 1, by omega⟩
            simp [uFrom, hp, HD.out, enc, hc]
        case measure =>
          simp only [World.iterPos, HR.out.1, hit]
          omega
      · obtain ⟨h4, hcm⟩ := hwide hc
        clear hwide
        have hc1 : 65536 ≤ (c : Int) := by omega
        have hc2 : (c : Int) ≤ 1114111 := by omega
        have hc3 : 65535 < (c : Int) := by omega
        have H4 := Lib.hid h4
        clear h4
        go_wp2_with (at_builtin; refine wpList_append_own _ rfl (.tmp 23) (.tmp 33) 28 rfl w.heap.size 64 i0 (.int .u16 0) 1 2 Try.underlying28 hi hz0 hz1 hz2 rfl (by decide) _ acc.length _ rfl (HO.out.alloc _) ⟨(wr.iterAt W1.heap.size s (pos + n)).heap.size, 0, none⟩ 2 2 [.int .u16 (IntKind.u16.wrap (wrap32 (55296 + bits .and .i32 (((c : Int) - 65536) / 1024) 1023))), .int .u16 (IntKind.u16.wrap (wrap32 (56320 + bits .and .i32 ((c : Int) - 65536) 1023)))] rfl rfl ?d1 ?d2 ?d3 ?d4 ?d5 ?_)
        case d1 => exact fun j u h => news_alloc _ _ _ j u h
        case d2 => intro u hu; simp only [List.mem_cons, List.not_mem_nil, or_false] at hu; rcases hu with rfl | rfl <;> rfl
        case d3 => unfold maxLen; omega
        case d4 => omega
        case d5 => have := HB.out.size; simp; omega
        intro v' w2 hown3 hgr _
        have hr := round_rel HIT.out HB.out HO.out hgr
        rw [hi_unit c hc1 hc2, lo_unit c hc1 hc2] at hown3
        have HR := Lib.hid hr
        have HO3 := Lib.hid hown3
        clear hr hown3 hgr
        go_wp2
        go_roundw
        case rel =>
          have h4 := H4.out
          refine ⟨pos + n, fuel - 1, acc ++ enc c, ?_, HR.out.1, HR.out.2, ?_, by omega, by simp [enc, hc]; omega⟩
          · have := HO3.out
            simpa [cells16, enc, hc] using this
          · rw [← HA.out, List.append_assoc]
            congr 1
            obtain ⟨f, rfl⟩ : ∃ f, fuel = f + 1 := ⟨fuel - 1, by omega⟩
            simp [uFrom, hp, HD.out]
        case measure =>
          simp only [World.iterPos, HR.out.1, hit]
          omega
    · have hnx : ∀ ty, (Instr.next (.pointer (some ⟨W1.heap.size, 0, none⟩)) true ty).run Try.prog wr = _ := fun ty => Lib.run_next_end_at wr W1.heap.size s pos ty hit hp
      rw [uFrom_end s fuel pos hp, List.append_nil] at hacc
      have HA := Lib.hid hacc
      have HO := Lib.hid hown
      clear hacc hown
      go_wp2
      go_ret
      refine ⟨_, rfl, ?_, hbw⟩
      rw [← HA.out]
      exact HO.out
end Go.Proofs.Ytmcdnkcpfjhbgaa.fnToUTF16
