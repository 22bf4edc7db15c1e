/-
  FnPathParts: at every path the package's folder, name and ending are those that spec.PathOf tells, where the law's own tests let the path in; the law returns true.
  Conditions: none.
-/
import Derived.Test.YtapbhbhaandedaaRRRPFnPathPartsx4
namespace Go.Proofs.YtapbhbhaandedaaRRR.Pure
open Go.RowKit Go.Proofs.YtapbhbhaandedaaRRR.PFnPathParts Go.Proofs.YtapbhbhaandedaaRRRW.PrintWords Go.Proofs.YtapbhbhaandedaaRRRW.PrintLast Go.Proofs.YtapbhbhaandedaaRRRW.PrintMore

set_option linter.unusedSimpArgs false

theorem w64 (n : Int) (h0 : -9223372036854775808 ≤ n) (h1 : n ≤ 9223372036854775807) : wrap64 n = n := by unfold wrap64; omega

/-! ### the last place below n -/
def lastP (p : Nat → Bool) : Nat → Option Nat
  | 0 => none
  | n + 1 => if p n = true then some n else lastP p n
def o2i : Option Nat → Int
  | none => -1
  | some i => (i : Int)

theorem lastP_some {p : Nat → Bool} {n i : Nat} (h : lastP p n = some i) : i < n ∧ p i = true := by
  induction n with
  | zero => cases h
  | succ n ih =>
    unfold lastP at h
    split at h
    · rename_i hp
      injection h with h
      subst h
      exact ⟨Nat.lt_succ_self _, hp⟩
    · have := ih h
      exact ⟨by omega, this.2⟩
theorem lastP_none {p : Nat → Bool} {n : Nat} (h : lastP p n = none) : ∀ j, j < n → p j = false := by
  induction n with
  | zero => intro j hj; omega
  | succ n ih =>
    unfold lastP at h
    split at h
    · cases h
    · rename_i hp
      intro j hj
      by_cases e : j = n
      · subst e; simpa using hp
      · exact ih h j (by omega)
theorem lastP_last {p : Nat → Bool} {n i : Nat} (h : lastP p n = some i) : ∀ j, i < j → j < n → p j = false := by
  induction n with
  | zero => cases h
  | succ n ih =>
    unfold lastP at h
    split at h
    · injection h with h
      intro j h1 h2
      omega
    · rename_i hp
      intro j h1 h2
      by_cases e : j = n
      · subst e; simpa using hp
      · exact ih h j h1 (by omega)
theorem o2i_lt (p : Nat → Bool) (n : Nat) : o2i (lastP p n) < n := by
  cases h : lastP p n with
  | none => simp only [o2i]; omega
  | some i => have := (lastP_some h).1; simp only [o2i]; omega

theorem mx_last (p q : Nat → Bool) (n : Nat) : mx (o2i (lastP p n)) (o2i (lastP q n)) = o2i (lastP (fun i => p i || q i) n) := by
  induction n with
  | zero => rfl
  | succ n ih =>
    have h1 := o2i_lt p n
    have h2 := o2i_lt q n
    unfold lastP
    cases hp : p n <;> cases hq : q n
    · simpa using ih
    · simp only [Bool.false_eq_true, if_false, if_true, Bool.or_true]
      unfold mx o2i at *
      split <;> simp_all <;> omega
    · simp only [Bool.false_eq_true, if_false, if_true, Bool.or_false]
      unfold mx o2i at *
      split <;> simp_all <;> omega
    · simp [mx, o2i]

theorem last_loop (s : ByteArray) (c : Int) (hs : s.size ≤ 140737488351232) (n : Nat) : n ≤ s.size → ∀ k, n < k → bytealg_LastIndexByteString.l0 k s c ((n : Int) - 1) = some (o2i (lastP (fun i => bt s i == c) n)) := by
  induction n with
  | zero =>
    intro _ k hk
    obtain ⟨k, rfl⟩ : ∃ m, k = m + 1 := ⟨k - 1, by omega⟩
    simp only [bytealg_LastIndexByteString.l0]
    rw [if_neg (by omega)]
    rfl
  | succ n ih =>
    intro hn k hk
    obtain ⟨k, rfl⟩ : ∃ m, k = m + 1 := ⟨k - 1, by omega⟩
    simp only [bytealg_LastIndexByteString.l0]
    have e : ((n + 1 : Nat) : Int) - 1 = (n : Int) := by omega
    rw [e, if_pos (by omega), if_pos (by omega), if_pos (by omega)]
    unfold lastP
    by_cases h : bt s (n : Int) = c
    · rw [if_pos h, if_pos (by simpa using h)]
      rfl
    · rw [if_neg h, if_neg (by simpa using h), w64 _ (by omega) (by omega)]
      exact ih (by omega) k (by omega)

theorem ev_last (s : ByteArray) (c : Int) (hs : s.size ≤ 140737488351232) : Ev (fun k => strings_LastIndexByte.f k s c) (o2i (lastP (fun i => bt s i == c) s.size)) := by
  refine ⟨s.size + 1, fun k hk => ?_⟩
  show strings_LastIndexByte.f k s c = _
  unfold strings_LastIndexByte.f bytealg_LastIndexByteString.f
  rw [w64 _ (by omega) (by omega), last_loop s c hs s.size (Nat.le_refl _) k (by omega)]
  rfl

/-! ### spec.PathOf -/
def sep (s : ByteArray) (i : Nat) : Bool := bt s i == 47 || bt s i == 92
def dot (s : ByteArray) (i : Nat) : Bool := bt s i == 46
def cutOf (s : ByteArray) : Nat := match lastP (sep s) s.size with
  | none => 0
  | some i => i + 1
/-- a last part, taken apart -/
def ext (d b : ByteArray) : ByteArray × ByteArray × ByteArray := match lastP (dot b) b.size with
  | none => (d, b, ⟨#[]⟩)
  | some i => (d, b.extract 0 i, b.extract i b.size)
def dirOf (s : ByteArray) : ByteArray := if cutOf s = 0 then ⟨#[]⟩ else s.extract 0 (cutOf s - 1)
def parts (s : ByteArray) : ByteArray × ByteArray × ByteArray := ext (dirOf s) (s.extract (cutOf s) s.size)

theorem ext_loop (d b : ByteArray) (hs : b.size ≤ 140737488351232) (n : Nat) : n ≤ b.size → ∀ k, n < k → spec_PathOf.l1 k d b ((n : Int) - 1) = some (match lastP (dot b) n with
    | none => (d, b, ⟨#[]⟩)
    | some i => (d, b.extract 0 i, b.extract i b.size)) := by
  induction n with
  | zero =>
    intro _ k hk
    obtain ⟨k, rfl⟩ : ∃ m, k = m + 1 := ⟨k - 1, by omega⟩
    simp only [spec_PathOf.l1]
    rw [if_neg (by omega)]
    rfl
  | succ n ih =>
    intro hn k hk
    obtain ⟨k, rfl⟩ : ∃ m, k = m + 1 := ⟨k - 1, by omega⟩
    simp only [spec_PathOf.l1]
    have e : ((n + 1 : Nat) : Int) - 1 = (n : Int) := by omega
    rw [e, if_pos (by omega), if_pos (by omega), if_pos (by omega)]
    unfold lastP
    by_cases h : bt b (n : Int) = 46
    · rw [if_pos h, if_pos (by omega), if_pos (by simpa [dot] using h)]
      rfl
    · rw [if_neg h, if_neg (by simpa [dot] using h), w64 _ (by omega) (by omega)]
      exact ih (by omega) k (by omega)

theorem ev_j2 (d b : ByteArray) (hs : b.size ≤ 140737488351232) : Ev (fun k => spec_PathOf.j2 k d b) (ext d b) := by
  refine ⟨b.size + 2, fun k hk => ?_⟩
  obtain ⟨k, rfl⟩ : ∃ m, k = m + 1 := ⟨k - 1, by omega⟩
  simp only [spec_PathOf.j2]
  rw [w64 _ (by omega) (by omega), ext_loop d b hs b.size (Nat.le_refl _) k (by omega)]
  rfl

theorem ev_j1 (s : ByteArray) (n : Nat) (hs : s.size ≤ 140737488351232) (hn : n ≤ s.size) : Ev (fun k => spec_PathOf.j1 k s ⟨#[]⟩ n) (ext (if n = 0 then ⟨#[]⟩ else s.extract 0 (n - 1)) (s.extract n s.size)) := by
  have hz : (s.extract n s.size).size ≤ 140737488351232 := by simp; omega
  refine Ev.step (fun k => by rw [spec_PathOf.j1]) ?_
  simp only [if_pos (show (0 : Int) ≤ (n : Int) by omega), if_pos (show (n : Int) ≤ (s.size : Int) by omega), Int.toNat_natCast]
  by_cases h : n = 0
  · subst h
    simp only [if_neg (show ¬ (((0 : Nat) : Int) > 0) by omega), if_true]
    exact ev_j2 _ _ hz
  · have e : wrap64 ((n : Int) - 1) = ((n - 1 : Nat) : Int) := by rw [w64 _ (by omega) (by omega)]; omega
    simp only [e, if_pos (show (n : Int) > 0 by omega), if_pos (show (0 : Int) ≤ ((n - 1 : Nat) : Int) by omega), if_pos (show ((n - 1 : Nat) : Int) ≤ (s.size : Int) by omega), if_neg h]
    exact ev_j2 _ _ hz

theorem path_loop (s : ByteArray) (hs : s.size ≤ 140737488351232) (n : Nat) : n ≤ s.size → Ev (fun k => spec_PathOf.l0 k s ⟨#[]⟩ n) (ext (if (match lastP (sep s) n with | none => 0 | some i => i + 1) = 0 then ⟨#[]⟩ else s.extract 0 ((match lastP (sep s) n with | none => 0 | some i => i + 1) - 1)) (s.extract (match lastP (sep s) n with | none => 0 | some i => i + 1) s.size)) := by
  induction n with
  | zero =>
    intro _
    refine Ev.step (fun k => by rw [spec_PathOf.l0]) ?_
    simp only [Int.natCast_zero, Int.lt_irrefl, if_false, gt_iff_lt]
    exact ev_j1 s 0 hs (Nat.zero_le _)
  | succ n ih =>
    intro hn
    have e : wrap64 (((n + 1 : Nat) : Int) - 1) = (n : Int) := by rw [w64 _ (by omega) (by omega)]; omega
    refine Ev.step (fun k => by rw [spec_PathOf.l0]) ?_
    simp only [e, if_pos (show ((n + 1 : Nat) : Int) > 0 by omega), if_pos (show (0 : Int) ≤ (n : Int) by omega), if_pos (show (n : Int) < (s.size : Int) by omega)]
    by_cases h1 : bt s (n : Int) = 47
    · have hp : sep s n = true := by simp [sep, h1]
      simp only [if_pos h1, lastP, if_pos hp]
      exact ev_j1 s (n + 1) hs hn
    · by_cases h2 : bt s (n : Int) = 92
      · have hp : sep s n = true := by simp [sep, h2]
        simp only [if_neg h1, if_pos h2, lastP, if_pos hp]
        exact ev_j1 s (n + 1) hs hn
      · have hp : ¬ sep s n = true := by simp [sep, h1, h2]
        simp only [if_neg h1, if_neg h2, lastP, if_neg hp]
        exact ih (by omega)

theorem ev_path (s : ByteArray) (hs : s.size ≤ 140737488351232) : Ev (fun k => spec_PathOf.f k s) (parts s) := by
  have h := path_loop s hs s.size (Nat.le_refl _)
  exact h

/-! ### the package -/
def MC : List UInt8 := [46, 109, 111, 100, 117, 108, 101, 46, 99, 115, 115]

theorem ev_last' (s : ByteArray) (c : Int) (hs : s.size ≤ 140737488351232) {n : Int} (h : o2i (lastP (fun i => bt s i == c) s.size) = n) : Ev (fun k => strings_LastIndexByte.f k s c) n := by
  subst h
  exact ev_last s c hs

theorem ev_pkg_j4 (d b : ByteArray) (hs : b.size ≤ 140737488351232) (hm : ∀ j, j ≤ b.size → (b.extract j b.size).toList ≠ MC) :
    Ev (fun k => logger_PlatformIndependentPathDirBaseExt.j4 k d b ⟨#[]⟩) (ext d b) := by
  refine Ev.step (fun k => by rw [logger_PlatformIndependentPathDirBaseExt.j4]) ?_
  unfold ext
  cases h : lastP (dot b) b.size with
  | none =>
    have h' : lastP (fun i => bt b i == 46) b.size = none := h
    refine Ev.bind (ev_last' b 46 hs (n := -1) (by rw [h']; rfl)) ?_
    simp only [if_neg (show ¬ ((-1 : Int) ≥ 0) by omega)]
    exact Ev.now _
  | some i =>
    have h' : lastP (fun i => bt b i == 46) b.size = some i := h
    have hi := (lastP_some h).1
    refine Ev.bind (ev_last' b 46 hs (n := (i : Int)) (by rw [h']; rfl)) ?_
    simp only [if_pos (show (i : Int) ≥ 0 by omega), if_pos (show (0 : Int) ≤ (i : Int) by omega), if_pos (show (i : Int) ≤ (b.size : Int) by omega)]
    by_cases hc : (b.extract (i : Int).toNat b.size).toList = [46, 99, 115, 115]
    · simp only [if_pos hc]
      have hz : (b.extract 0 (i : Int).toNat).size ≤ 140737488351232 := by simp; omega
      cases h2 : lastP (fun j => bt (b.extract 0 (i : Int).toNat) j == 46) (b.extract 0 (i : Int).toNat).size with
      | none =>
        refine Ev.bind (ev_last' _ 46 hz (n := -1) (by rw [h2]; rfl)) ?_
        simp only [if_neg (show ¬ ((-1 : Int) ≥ 0) by omega)]
        exact Ev.now _
      | some j =>
        have hj := (lastP_some h2).1
        have hj' : j < i := by
          have : (b.extract 0 (i : Int).toNat).size = min (i : Int).toNat b.size - 0 := by simp
          omega
        refine Ev.bind (ev_last' _ 46 hz (n := (j : Int)) (by rw [h2]; rfl)) ?_
        have hne := hm j (by omega)
        simp only [if_pos (show (j : Int) ≥ 0 by omega), if_pos (show (0 : Int) ≤ (j : Int) by omega), if_pos (show (j : Int) ≤ (b.size : Int) by omega), if_neg (show ¬ ((b.extract (j : Int).toNat b.size).toList = [46, 109, 111, 100, 117, 108, 101, 46, 99, 115, 115]) from hne)]
        exact Ev.now _
    · simp only [if_neg hc]
      exact Ev.now _

theorem ev_pkg_l0 (s : ByteArray) (a : Int) (hs : s.size ≤ 140737488351232) (h1 : ∀ i, lastP (sep s) s.size = some i → (i : Int) ≠ a ∧ i + 1 ≠ s.size) (hm : ∀ j, j ≤ s.size → (s.extract j s.size).toList ≠ MC) :
    Ev (fun k => logger_PlatformIndependentPathDirBaseExt.l0 k s ⟨#[]⟩ ⟨#[]⟩ a) (parts s) := by
  refine Ev.step (fun k => by rw [logger_PlatformIndependentPathDirBaseExt.l0]) ?_
  refine Ev.bind (ev_last s 47 hs) ?_
  refine Ev.bind (ev_last s 92 hs) ?_
  unfold parts dirOf cutOf
  have hmx : mx (o2i (lastP (fun i => bt s i == 47) s.size)) (o2i (lastP (fun i => bt s i == 92) s.size)) = o2i (lastP (sep s) s.size) := mx_last _ _ _
  cases h : lastP (sep s) s.size with
  | none =>
    have e0 : mx (o2i (lastP (fun i => bt s i == 47) s.size)) (o2i (lastP (fun i => bt s i == 92) s.size)) < 0 := by rw [hmx, h]; decide
    simp only [if_pos e0, if_true]
    have e : s.extract 0 s.size = s := by apply ByteArray.ext; simp
    rw [e]
    exact ev_pkg_j4 _ s hs hm
  | some i =>
    have hi := (lastP_some h).1
    obtain ⟨n1, n2⟩ := h1 i h
    generalize mx (o2i (lastP (fun i => bt s i == 47) s.size)) (o2i (lastP (fun i => bt s i == 92) s.size)) = m at hmx
    have hm' : m = (i : Int) := by rw [hmx, h]; rfl
    subst hm'
    have e : wrap64 ((i : Int) + 1) = ((i + 1 : Nat) : Int) := by rw [w64 _ (by omega) (by omega)]; omega
    simp only [if_neg (show ¬ ((i : Int) < 0) by omega), if_neg n1, if_neg (show ¬ (wrap64 ((i : Int) + 1) = (s.size : Int)) by omega), if_pos (show (0 : Int) ≤ (i : Int) by omega), if_pos (show (i : Int) ≤ (s.size : Int) by omega), if_pos (show (0 : Int) ≤ wrap64 ((i : Int) + 1) by omega), if_pos (show wrap64 ((i : Int) + 1) ≤ (s.size : Int) by omega), if_neg (show ¬ (i + 1 = 0) by omega), Nat.add_sub_cancel]
    rw [e, Int.toNat_natCast, Int.toNat_natCast]
    have hz : (s.extract (i + 1) s.size).size = s.size - (i + 1) := by simp
    refine ev_pkg_j4 _ _ (by omega) (fun j hj => ?_)
    have e2 : (s.extract (i + 1) s.size).extract j (s.extract (i + 1) s.size).size = s.extract (i + 1 + j) s.size := by
      rw [hz]
      apply ByteArray.ext
      simp [Array.extract_extract]
      congr 1
      omega
    rw [e2]
    exact hm _ (by omega)

theorem ev_j2' (s : ByteArray) (a : Int) {R : ByteArray × ByteArray × ByteArray} (h : Ev (fun k => logger_PlatformIndependentPathDirBaseExt.l0 k s ⟨#[]⟩ ⟨#[]⟩ a) R) : Ev (fun k => logger_PlatformIndependentPathDirBaseExt.j2 k s ⟨#[]⟩ ⟨#[]⟩ a) R :=
  Ev.step (fun k => by rw [logger_PlatformIndependentPathDirBaseExt.j2]) h

theorem ev_j1' (s : ByteArray) (b : Bool) {R : ByteArray × ByteArray × ByteArray} (hb : b = true → 0 < s.size) (h : Ev (fun k => logger_PlatformIndependentPathDirBaseExt.l0 k s ⟨#[]⟩ ⟨#[]⟩ (-1)) R)
    (h2 : b = true → Ev (fun k => logger_PlatformIndependentPathDirBaseExt.l0 k s ⟨#[]⟩ ⟨#[]⟩ 2) R) : Ev (fun k => logger_PlatformIndependentPathDirBaseExt.j1 k s ⟨#[]⟩ ⟨#[]⟩ (-1) b) R := by
  refine Ev.step (fun k => by rw [logger_PlatformIndependentPathDirBaseExt.j1]) ?_
  cases b with
  | false => simp only [Bool.false_eq_true, if_false]; exact ev_j2' s _ h
  | true =>
    have hz := hb rfl
    have h2 := h2 rfl
    simp only [if_true, if_pos (show (0 : Int) < (s.size : Int) by omega)]
    repeat' split
    all_goals first | exact ev_j2' s _ h2 | exact ev_j2' s _ h

/-- the package's function, where its own root is not the last slash -/
theorem ev_pkg (s : ByteArray) (hs : s.size ≤ 140737488351232) (h0 : ∀ i, lastP (sep s) s.size = some i → i + 1 ≠ s.size ∧ (0 < s.size → sep s 0 = true → i ≠ 0) ∧ (2 < s.size → bt s 1 = 58 → i ≠ 2)) (hm : ∀ j, j ≤ s.size → (s.extract j s.size).toList ≠ MC) :
    Ev (fun k => logger_PlatformIndependentPathDirBaseExt.f k s) (parts s) := by
  have hneg : Ev (fun k => logger_PlatformIndependentPathDirBaseExt.l0 k s ⟨#[]⟩ ⟨#[]⟩ (-1)) (parts s) := ev_pkg_l0 s (-1) hs (fun i hi => ⟨by omega, (h0 i hi).1⟩) hm
  unfold logger_PlatformIndependentPathDirBaseExt.f
  have hj0 : Ev (fun k => logger_PlatformIndependentPathDirBaseExt.j0 k s ⟨#[]⟩ ⟨#[]⟩ (-1) false) (parts s) := by
    refine Ev.step (fun k => by rw [logger_PlatformIndependentPathDirBaseExt.j0]) ?_
    simp only [Bool.false_eq_true, if_false]
    by_cases h2 : (s.size : Int) > 2
    · simp only [if_pos h2, if_pos (show (1 : Int) < (s.size : Int) by omega), if_pos (show (2 : Int) < (s.size : Int) by omega)]
      by_cases hc : bt s 1 = 58
      · simp only [if_pos hc]
        have htwo : Ev (fun k => logger_PlatformIndependentPathDirBaseExt.l0 k s ⟨#[]⟩ ⟨#[]⟩ 2) (parts s) :=
          ev_pkg_l0 s 2 hs (fun i hi => ⟨by have := (h0 i hi).2.2 (by omega) hc; omega, (h0 i hi).1⟩) hm
        split
        · exact ev_j1' s true (fun _ => by omega) hneg (fun _ => htwo)
        · exact ev_j1' s _ (fun _ => by omega) hneg (fun _ => htwo)
      · simp only [if_neg hc]
        exact ev_j1' s false (fun h => by cases h) hneg (fun h => by cases h)
    · simp only [if_neg h2]
      exact ev_j1' s false (fun h => by cases h) hneg (fun h => by cases h)
  have hjt : 0 < s.size → sep s 0 = true → Ev (fun k => logger_PlatformIndependentPathDirBaseExt.j0 k s ⟨#[]⟩ ⟨#[]⟩ (-1) true) (parts s) := by
    intro hz hsep
    refine Ev.step (fun k => by rw [logger_PlatformIndependentPathDirBaseExt.j0]) ?_
    simp only [if_true]
    exact ev_j2' s 0 (ev_pkg_l0 s 0 hs (fun i hi => ⟨by have := (h0 i hi).2.1 hz hsep; omega, (h0 i hi).1⟩) hm)
  by_cases hz : (s.size : Int) > 0
  · simp only [if_pos hz, if_pos (show (0 : Int) < (s.size : Int) by omega)]
    by_cases h1 : bt s 0 = 47
    · simp only [if_pos h1]
      exact hjt (by omega) (by simp [sep, h1])
    · simp only [if_neg h1]
      by_cases h2 : bt s 0 = 92
      · simp only [h2, beq_self_eq_true]
        exact hjt (by omega) (by simp [sep, h2])
      · have : (bt s 0 == 92) = false := by simpa using h2
        simp only [this]
        exact hj0
  · simp only [if_neg hz]
    exact hj0

theorem ev_impl (s : ByteArray) {R : ByteArray × ByteArray × ByteArray} (h : Ev (fun k => logger_PlatformIndependentPathDirBaseExt.f k s) R) : Ev (fun k => impl_PathParts.f k s) R := by
  unfold impl_PathParts.f
  exact Ev.bind h (Ev.now _)

/-! ### the law -/
theorem parts_fst (s : ByteArray) : (parts s).1 = dirOf s := by
  unfold parts ext
  split <;> rfl

theorem ev_true (s : ByteArray) (d st ex : ByteArray) (n : Int) : Ev (fun k => laws_FnPathParts.j1 k s true d st ex n true) true := by
  refine Ev.step (fun k => by rw [laws_FnPathParts.j1]) ?_
  simp only [if_true]
  exact Ev.now _

theorem bt_extract0 (s : ByteArray) (n i : Nat) (hi : i < n) (hn : n ≤ s.size) : bt (s.extract 0 n) (i : Int) = bt s (i : Int) := by
  have hz : (s.extract 0 n).size = n := by simp; omega
  unfold bt
  rw [dif_pos (by simp only [Int.toNat_natCast]; omega), dif_pos (by simp only [Int.toNat_natCast]; omega)]
  simp [ByteArray.getElem_extract]

theorem ev_same (s : ByteArray) {R : ByteArray × ByteArray × ByteArray} (h : Ev (fun k => impl_PathParts.f k s) R) :
    Ev (fun k => (impl_PathParts.f k s).bind fun b => (if true = true then (if b.1.toList = R.1.toList then (if b.2.1.toList = R.2.1.toList then (some (b.2.2.toList == R.2.2.toList)) else (some false)) else (some false)) else (some false))) true := by
  refine Ev.bind h ?_
  simp only [if_true, beq_self_eq_true]
  exact Ev.now _

theorem ev_tail (s : ByteArray) (hs : s.size ≤ 140737488351232) (b : Bool)
    (hb : b = false → (0 < s.size → sep s (s.size - 1) = false) ∧ (∀ j, j ≤ s.size → (s.extract j s.size).toList ≠ MC) ∧ (((parts s).1.size : Int) = 2 → ¬ bt (parts s).1 1 = 58)) :
    Ev (fun k => laws_FnPathParts.j1 k s true (parts s).1 (parts s).2.1 (parts s).2.2 (s.size : Int) b) true := by
  cases b with
  | true => exact ev_true _ _ _ _ _
  | false =>
    obtain ⟨hl, hm, hd⟩ := hb rfl
    rw [parts_fst] at hd
    refine Ev.step (fun k => by rw [laws_FnPathParts.j1]) ?_
    simp only [Bool.false_eq_true, if_false]
    have two : ∀ i, lastP (sep s) s.size = some i → 2 < s.size → bt s 1 = 58 → i ≠ 2 := by
      intro i hi h2 hc e
      subst e
      have hdir : dirOf s = s.extract 0 2 := by unfold dirOf cutOf; rw [hi]; rfl
      have hz : (s.extract 0 2).size = 2 := by simp; omega
      refine hd (by rw [hdir, hz]; rfl) ?_
      rw [hdir, ← hc]
      exact bt_extract0 s 2 1 (by decide) (by omega)
    have last : ∀ i, lastP (sep s) s.size = some i → i + 1 ≠ s.size := by
      intro i hi e
      have h1 := (lastP_some hi).2
      have h2 := hl (by omega)
      rw [show s.size - 1 = i by omega] at h2
      rw [h1] at h2
      cases h2
    have fin : (sep s 0 = true → ¬ ((dirOf s).size : Int) < 2) → Ev (fun k => impl_PathParts.f k s) (parts s) := by
      intro h0
      refine ev_impl s (ev_pkg s hs (fun i hi => ⟨last i hi, fun hz hsep e => ?_, two i hi⟩) hm)
      subst e
      have hdir : dirOf s = s.extract 0 0 := by unfold dirOf cutOf; rw [hi]; rfl
      refine h0 hsep ?_
      rw [hdir]
      simp
    by_cases hz : (s.size : Int) > 0
    · simp only [if_pos hz, if_pos (show (0 : Int) < (s.size : Int) by omega)]
      by_cases h1 : bt s 0 = 47
      · simp only [if_pos h1]
        by_cases h2 : ((parts s).1.size : Int) < 2
        · simp only [if_pos h2]; exact Ev.now _
        · simp only [if_neg h2]
          rw [parts_fst] at h2
          exact ev_same s (fin (fun _ => h2))
      · simp only [if_neg h1]
        by_cases h3 : bt s 0 = 92
        · simp only [if_pos h3]
          by_cases h2 : ((parts s).1.size : Int) < 2
          · simp only [if_pos h2]; exact Ev.now _
          · simp only [if_neg h2]
            rw [parts_fst] at h2
            exact ev_same s (fin (fun _ => h2))
        · simp only [if_neg h3]
          exact ev_same s (fin (fun h => by simp [sep, h1, h3] at h))
    · simp only [if_neg hz]
      exact ev_same s (fin (fun h => by
        have : bt s 0 = 0 := by unfold bt; rw [dif_neg (by show ¬ (0 < s.size); omega)]
        simp [sep, this] at h))

theorem styled_f (s : ByteArray) (hs : s.size ≤ 140737488351232) : ∃ b, laws_styled.f s = some b ∧ (b = false → ∀ j, j ≤ s.size → (s.extract j s.size).toList ≠ MC) := by
  have len : ∀ j, j ≤ s.size → (s.extract j s.size).toList = MC → s.size - j = 11 := by
    intro j hj e
    have h1 : (s.extract j s.size).toList.length = s.size - j := by
      rw [ByteArray.toList_eq, Array.length_toList]
      simp
    rw [e] at h1
    exact h1.symm
  unfold laws_styled.f
  by_cases h : (s.size : Int) ≥ 11
  · have e : wrap64 ((s.size : Int) - 11) = ((s.size - 11 : Nat) : Int) := by rw [w64 _ (by omega) (by omega)]; omega
    rw [if_pos h, e, if_pos (by omega), if_pos (by omega)]
    refine ⟨_, rfl, fun hf j hj hc => ?_⟩
    have hj' : j = s.size - 11 := by have := len j hj hc; omega
    subst hj'
    rw [Int.toNat_natCast, hc] at hf
    exact absurd hf (by decide)
  · rw [if_neg h]
    refine ⟨false, rfl, fun _ j hj hc => ?_⟩
    have := len j hj hc
    omega

theorem awake : Ev (fun k => impl_PathParts.f k ⟨#[97, 47, 98, 46, 99]⟩) (⟨#[97]⟩, ⟨#[98]⟩, ⟨#[46, 99]⟩) :=
  Ev.of (impl_PathParts.mono _) (k := 30) (by decide +kernel)

theorem FnPathParts : laws_FnPathParts.Pure := by
  intro s hs
  by_cases hbig : (s.size : Int) > 2147483647
  · exact ⟨0, by unfold laws_FnPathParts.f; rw [if_pos hbig]⟩
  · apply Ev.rounds
    unfold laws_FnPathParts.f
    simp only [if_neg hbig]
    refine Ev.bind awake ?_
    simp only [if_pos (show (⟨#[97]⟩ : ByteArray).toList = [97] by decide +kernel), if_pos (show (⟨#[98]⟩ : ByteArray).toList = [98] by decide +kernel), show ((⟨#[46, 99]⟩ : ByteArray).toList == [46, 99]) = true by decide +kernel]
    refine Ev.step (fun k => by rw [laws_FnPathParts.j0]) ?_
    refine Ev.bind (ev_path s hs) ?_
    by_cases h1 : (s.size : Int) > 1000
    · simp only [if_pos h1]; exact ev_true _ _ _ _ _
    · simp only [if_neg h1]
      obtain ⟨b, hb, hm⟩ := styled_f s hs
      simp only [hb, Option.bind_some]
      cases b with
      | true => simp only [if_true]; exact ev_true _ _ _ _ _
      | false =>
        have hm := hm rfl
        simp only [Bool.false_eq_true, if_false]
        have rest : (0 < s.size → sep s (s.size - 1) = false) → Ev (fun n => if (parts s).1.toList = [] then (if (wrap64 (((parts s).2.1.size : Int) + ((parts s).2.2.size : Int))) = (s.size : Int) then (if ((parts s).1.size : Int) = 2 then (if 1 < ((parts s).1.size : Int) then (laws_FnPathParts.j1 n s true (parts s).1 (parts s).2.1 (parts s).2.2 (s.size : Int) ((bt (parts s).1 1) == 58)) else none) else (laws_FnPathParts.j1 n s true (parts s).1 (parts s).2.1 (parts s).2.2 (s.size : Int) false)) else (laws_FnPathParts.j1 n s true (parts s).1 (parts s).2.1 (parts s).2.2 (s.size : Int) true)) else (if ((parts s).1.size : Int) = 2 then (if 1 < ((parts s).1.size : Int) then (laws_FnPathParts.j1 n s true (parts s).1 (parts s).2.1 (parts s).2.2 (s.size : Int) ((bt (parts s).1 1) == 58)) else none) else (laws_FnPathParts.j1 n s true (parts s).1 (parts s).2.1 (parts s).2.2 (s.size : Int) false))) true := by
          intro hl
          have tail2 : Ev (fun n => if ((parts s).1.size : Int) = 2 then (if 1 < ((parts s).1.size : Int) then (laws_FnPathParts.j1 n s true (parts s).1 (parts s).2.1 (parts s).2.2 (s.size : Int) ((bt (parts s).1 1) == 58)) else none) else (laws_FnPathParts.j1 n s true (parts s).1 (parts s).2.1 (parts s).2.2 (s.size : Int) false)) true := by
            by_cases h2 : ((parts s).1.size : Int) = 2
            · simp only [if_pos h2, if_pos (show (1 : Int) < ((parts s).1.size : Int) by omega)]
              exact ev_tail s hs _ (fun hf => ⟨hl, hm, fun _ => by simpa using hf⟩)
            · simp only [if_neg h2]
              exact ev_tail s hs _ (fun hf => ⟨hl, hm, fun h => absurd h h2⟩)
          by_cases h3 : (parts s).1.toList = []
          · simp only [if_pos h3]
            by_cases h4 : (wrap64 (((parts s).2.1.size : Int) + ((parts s).2.2.size : Int))) = (s.size : Int)
            · simp only [if_pos h4]
              exact tail2
            · simp only [if_neg h4]
              exact ev_true _ _ _ _ _
          · simp only [if_neg h3]
            exact tail2
        by_cases hz : (s.size : Int) > 0
        · have e : wrap64 ((s.size : Int) - 1) = ((s.size - 1 : Nat) : Int) := by rw [w64 _ (by omega) (by omega)]; omega
          simp only [if_pos hz, if_pos (show (0 : Int) ≤ wrap64 ((s.size : Int) - 1) by omega), if_pos (show wrap64 ((s.size : Int) - 1) < (s.size : Int) by omega)]
          by_cases h5 : bt s (wrap64 ((s.size : Int) - 1)) = 47
          · simp only [if_pos h5]; exact ev_true _ _ _ _ _
          · by_cases h6 : bt s (wrap64 ((s.size : Int) - 1)) = 92
            · simp only [if_neg h5, if_pos h6]; exact ev_true _ _ _ _ _
            · simp only [if_neg h5, if_neg h6]
              rw [e] at h5 h6
              exact rest (fun _ => by simp [sep, h5, h6])
        · simp only [if_neg hz]
          exact rest (fun h => by omega)

end Go.Proofs.YtapbhbhaandedaaRRR.Pure
