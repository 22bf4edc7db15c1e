/-
  Plain lemmas for FnScanBack: what a histogram is after the bytes of a text are counted, and that counting them with the opposite sign undoes it. No program in sight.
  Conditions: none.
-/
import Derived.RowKit
namespace Go.Proofs.Ytmcdnkcpfjhbgaa.scanPure
open Go.RowKit (wrap32 wrap64)

/-- the place of a byte in the histogram -/
def idx (c : UInt8) : Option Nat :=
  if 97 ≤ c.toNat ∧ c.toNat ≤ 122 then some (c.toNat - 97)
  else if 65 ≤ c.toNat ∧ c.toNat ≤ 90 then some (c.toNat - 39)
  else if 48 ≤ c.toNat ∧ c.toNat ≤ 57 then some (c.toNat + 4)
  else if c.toNat = 95 then some 62
  else if c.toNat = 36 then some 63
  else none

def bump (d : Int) (zs : List Int) (k : Nat) : List Int := zs.set k (wrap32 (zs.getD k 0 + d))
def step (d : Int) (zs : List Int) (c : UInt8) : List Int := match idx c with
  | some k => bump d zs k
  | none => zs
def scan (d : Int) (l : List UInt8) (zs : List Int) : List Int := l.foldl (step d) zs

theorem idx_lt {c : UInt8} {k : Nat} (h : idx c = some k) : k < 64 := by
  unfold idx at h
  repeat' split at h
  all_goals first | (injection h with h; omega) | contradiction

theorem step_length (d : Int) (zs : List Int) (c : UInt8) : (step d zs c).length = zs.length := by
  unfold step
  split <;> simp [bump]

theorem scan_length (d : Int) (l : List UInt8) (zs : List Int) : (scan d l zs).length = zs.length := by
  unfold scan
  induction l generalizing zs with
  | nil => rfl
  | cons c l ih => rw [List.foldl_cons, ih, step_length]

theorem scan_snoc (d : Int) (l : List UInt8) (c : UInt8) (zs : List Int) : scan d (l ++ [c]) zs = step d (scan d l zs) c := by
  simp [scan]

/-- how often place k is met -/
def cnt (k : Nat) (l : List UInt8) : Nat := l.countP fun c => idx c == some k

def Fits (zs : List Int) : Prop := ∀ k, wrap32 (zs.getD k 0) = zs.getD k 0

theorem wrap32_wrap (a b : Int) : wrap32 (wrap32 a + b) = wrap32 (a + b) := by
  unfold wrap32
  omega
theorem wrap32_idem (a : Int) : wrap32 (wrap32 a) = wrap32 a := by
  unfold wrap32
  omega

theorem step_getD (d : Int) (zs : List Int) (hz : zs.length = 64) (c : UInt8) (k : Nat) (hk : k < 64) :
    (step d zs c).getD k 0 = if idx c = some k then wrap32 (zs.getD k 0 + d) else zs.getD k 0 := by
  unfold step
  split
  · rename_i j hj
    rw [hj]
    by_cases e : j = k
    · subst e
      simp [bump, List.getD_eq_getElem?_getD, hz, hk]
    · simp [bump, List.getD_eq_getElem?_getD, e]
  · rename_i hj
    simp [hj]

theorem scan_getD (d : Int) (l : List UInt8) : ∀ (zs : List Int), zs.length = 64 → Fits zs → ∀ k, k < 64 → (scan d l zs).getD k 0 = wrap32 (zs.getD k 0 + d * cnt k l) := by
  induction l with
  | nil =>
    intro zs hz hf k hk
    have := hf k
    simp only [cnt, List.countP_nil, Int.natCast_zero, Int.mul_zero, Int.add_zero]
    exact this.symm
  | cons c l ih =>
    intro zs hz hf k hk
    have hf' : Fits (step d zs c) := by
      intro j
      by_cases hj : j < 64
      · rw [step_getD d zs hz c j hj]
        split
        · exact wrap32_idem _
        · exact hf j
      · have : (step d zs c).getD j 0 = 0 := by rw [List.getD_eq_getElem?_getD, List.getElem?_eq_none (by rw [step_length]; omega)]; rfl
        rw [this]; unfold wrap32; omega
    have := ih (step d zs c) (by rw [step_length]; exact hz) hf' k hk
    show (scan d l (step d zs c)).getD k 0 = _
    rw [this, step_getD d zs hz c k hk]
    unfold cnt
    rw [List.countP_cons]
    by_cases e : idx c = some k
    · rw [if_pos e, if_pos (by simpa using e), wrap32_wrap]
      congr 1
      rw [Int.natCast_add, Int.mul_add]
      omega
    · rw [if_neg e, if_neg (by simpa using e)]
      simp

/-- to count by nothing changes nothing -/
theorem scan_zero (l : List UInt8) (zs : List Int) (hz : zs.length = 64) (hf : Fits zs) : scan 0 l zs = zs := by
  apply List.ext_getElem
  · rw [scan_length]
  · intro k h1 h2
    have e1 : (scan 0 l zs).getD k 0 = (scan 0 l zs)[k] := by simp [List.getD_eq_getElem?_getD, h1]
    have e2 : zs.getD k 0 = zs[k] := by simp [List.getD_eq_getElem?_getD, h2]
    rw [← e1, ← e2, scan_getD 0 l zs hz hf k (by omega)]
    simp only [Int.zero_mul, Int.add_zero]
    exact hf k

/-- scanned numbers fit -/
theorem scan_fits (d : Int) (l : List UInt8) (zs : List Int) (hz : zs.length = 64) (hf : Fits zs) : Fits (scan d l zs) := by
  intro j
  by_cases hj : j < 64
  · rw [scan_getD d l zs hz hf j hj]; exact wrap32_idem _
  · have : (scan d l zs).getD j 0 = 0 := by rw [List.getD_eq_getElem?_getD, List.getElem?_eq_none (by rw [scan_length]; omega)]; rfl
    rw [this]; unfold wrap32; omega

/-- TO COUNT, AND THEN TO TAKE AWAY, CHANGES NOTHING -/
theorem scan_back (d : Int) (l : List UInt8) (zs : List Int) (hz : zs.length = 64) (hf : Fits zs) : scan (wrap32 (-d)) l (scan d l zs) = zs := by
  have hl : (scan d l zs).length = 64 := by rw [scan_length, hz]
  have hf1 : Fits (scan d l zs) := scan_fits d l zs hz hf
  apply List.ext_getElem
  · rw [scan_length, scan_length]
  · intro k h1 h2
    have hk : k < 64 := by omega
    have e1 : (scan (wrap32 (-d)) l (scan d l zs)).getD k 0 = (scan (wrap32 (-d)) l (scan d l zs))[k] := by simp [List.getD_eq_getElem?_getD, h1]
    have e2 : zs.getD k 0 = zs[k] := by simp [List.getD_eq_getElem?_getD, h2]
    rw [← e1, ← e2, scan_getD _ l _ hl hf1 k hk, scan_getD d l zs hz hf k hk, wrap32_wrap]
    have hw : ∃ q : Int, wrap32 (-d) = -d + 4294967296 * q := ⟨(wrap32 (-d) + d) / 4294967296, by unfold wrap32; omega⟩
    obtain ⟨q, hq⟩ := hw
    rw [hq]
    have e3 : zs.getD k 0 + d * ↑(cnt k l) + (-d + 4294967296 * q) * ↑(cnt k l) = zs.getD k 0 + 4294967296 * (q * ↑(cnt k l)) := by
      rw [Int.add_mul, Int.mul_assoc, Int.neg_mul]; omega
    rw [e3]
    generalize q * (↑(cnt k l) : Int) = m
    have := hf k
    generalize zs.getD k 0 = z at this ⊢
    unfold wrap32 at this ⊢
    omega

end Go.Proofs.Ytmcdnkcpfjhbgaa.scanPure
