/-
  FnFinalize: the text that the finalizing has before it, and the text that it will have written.
  Conditions: none.
-/
import Derived.Test.YtdhaifcjhmmdlaaFnFinalizePure
namespace Go.Proofs.Ytdhaifcjhmmdlaa.fnFinalize
set_option linter.unusedVariables false
set_option linter.unusedSimpArgs false
/-- an item's text without its comma -/
def txtN (i : It) : List UInt8 := List.replicate i.k 59 ++ (vlq i.d ++ i.rest)
def tl : List It → List UInt8
  | [] => []
  | i :: r => txtN i ++ rn r
def tlF (f : Fs) : List It → List UInt8
  | [] => []
  | i :: r => txtN (f.turn i) ++ rn (fin (f.step i) r)
def comma : List It → List UInt8
  | [] => []
  | i :: _ => if i.c = true then [44] else []
def Cs (l : List It) : Prop := ∀ i ∈ l, i.c = true → i.k = 0
theorem turn_k (f : Fs) (i : It) : (f.turn i).k = i.k ∧ (f.turn i).c = i.c ∧ (f.turn i).rest = i.rest := by
  unfold Fs.turn
  split <;> exact ⟨rfl, rfl, rfl⟩
theorem rn_tl : ∀ l : List It, Cs l → rn l = comma l ++ tl l
  | [], _ => rfl
  | i :: r, h => by
    rw [rn_cons]
    show i.txt ++ rn r = comma (i :: r) ++ (txtN i ++ rn r)
    unfold It.txt It.head comma txtN
    by_cases hc : i.c = true
    · have := h i (by simp) hc
      simp [hc, this]
    · simp [hc]
theorem rn_tlF : ∀ (l : List It) (f : Fs), Cs l → rn (fin f l) = comma l ++ tlF f l
  | [], _, _ => rfl
  | i :: r, f, h => by
    show rn (f.turn i :: fin (f.step i) r) = comma (i :: r) ++ (txtN (f.turn i) ++ rn (fin (f.step i) r))
    obtain ⟨e1, e2, e3⟩ := turn_k f i
    rw [rn_cons]
    unfold It.txt It.head comma txtN
    rw [e1, e2, e3]
    by_cases hc : i.c = true
    · have := h i (by simp) hc
      simp [hc, this]
    · simp [hc]
/-- one semicolon -/
def Fs.line1 (f : Fs) : Fs := ⟨f.line + 1, 0, 0, f.sh⟩
theorem go_line1 (f : Fs) (i : It) (k : Nat) (hk : i.k = k + 1) : f.line1.go { i with k := k } = f.go i := by
  unfold Fs.go Fs.line1
  have e1 : f.line + 1 + (k : Int) = f.line + ((k + 1 : Nat) : Int) := by omega
  simp only [hk, e1]
  simp
theorem hit_line1 (f : Fs) (i : It) (k : Nat) (hk : i.k = k + 1) : f.line1.hit { i with k := k } = f.hit i := by
  unfold Fs.hit
  rw [go_line1 f i k hk]
  have e1 : f.line1.line + (k : Int) = f.line + (i.k : Int) := by rw [hk]; show f.line + 1 + (k : Int) = _; omega
  show decide (_ ∧ _ = f.line1.line + (k : Int)) = _
  rw [e1]
  rfl
theorem step_line1 (f : Fs) (i : It) (k : Nat) (hk : i.k = k + 1) : f.line1.step { i with k := k } = f.step i := by
  unfold Fs.step
  rw [go_line1 f i k hk, hit_line1 f i k hk]
theorem tl_semi (i : It) (k : Nat) (hk : i.k = k + 1) (r : List It) : tl (i :: r) = 59 :: tl ({ i with k := k } :: r) := by
  show List.replicate i.k 59 ++ (vlq i.d ++ i.rest) ++ rn r = 59 :: (List.replicate k 59 ++ (vlq i.d ++ i.rest) ++ rn r)
  rw [hk]
  rfl
theorem tlF_semi (f : Fs) (i : It) (k : Nat) (hk : i.k = k + 1) (r : List It) : tlF f (i :: r) = 59 :: tlF f.line1 ({ i with k := k } :: r) := by
  show txtN (f.turn i) ++ rn (fin (f.step i) r) = 59 :: (txtN (f.line1.turn { i with k := k }) ++ rn (fin (f.line1.step { i with k := k }) r))
  rw [step_line1 f i k hk]
  obtain ⟨e1, _, e3⟩ := turn_k f i
  obtain ⟨g1, _, g3⟩ := turn_k f.line1 { i with k := k }
  have ed : (f.line1.turn { i with k := k }).d = (f.turn i).d := by
    unfold Fs.turn
    rw [go_line1 f i k hk, hit_line1 f i k hk]
    split <;> rfl
  unfold txtN
  rw [e1, g1, e3, g3, ed, hk]
  rfl
theorem tl_seg (i : It) (hk : i.k = 0) (r : List It) (hC : Cs r) : tl (i :: r) = vlq i.d ++ (i.rest ++ (comma r ++ tl r)) := by
  show txtN i ++ rn r = _
  rw [rn_tl r hC]
  unfold txtN
  rw [hk]
  simp
theorem tlF_seg (f : Fs) (i : It) (hk : i.k = 0) (r : List It) (hC : Cs r) : tlF f (i :: r) = vlq (f.turn i).d ++ (i.rest ++ (comma r ++ tlF (f.step i) r)) := by
  show txtN (f.turn i) ++ rn (fin (f.step i) r) = _
  rw [rn_tlF r _ hC]
  obtain ⟨e1, _, e3⟩ := turn_k f i
  unfold txtN
  rw [e1, e3, hk]
  simp
theorem Cs.tail {i : It} {r : List It} (h : Cs (i :: r)) : Cs r := fun x hx => h x (List.mem_cons_of_mem _ hx)
theorem Cs.low {i : It} {r : List It} (h : Cs (i :: r)) (k : Nat) (hk : i.k = k + 1) : Cs ({ i with k := k } :: r) := by
  intro x hx hc
  rcases List.mem_cons.1 hx with rfl | hx
  · have := h i (by simp) hc
    omega
  · exact h x (List.mem_cons_of_mem _ hx) hc
/-- one shift changes nothing -/
theorem fin_one (s : Sh) : ∀ (l : List It) (f : Fs), f.sh = [s] → fin f l = l
  | [], _, _ => rfl
  | i :: r, f, h => by
    have hg : (f.go i).sh = [s] := by
      unfold Fs.go
      simp only [h]
      rfl
    have hh : f.hit i = false := by
      unfold Fs.hit
      rw [hg, h]
      simp
    show f.turn i :: fin (f.step i) r = i :: r
    have e1 : f.turn i = i := by unfold Fs.turn; rw [hh]; rfl
    have e2 : f.step i = f.go i := by unfold Fs.step; rw [hh]; rfl
    rw [e1, e2, fin_one s r _ hg]
end Go.Proofs.Ytdhaifcjhmmdlaa.fnFinalize
