/-
  FnFinalize, the plain part: numbers as VLQ, mappings as items of a text, and what shifts do to the items.
  Conditions: none.
-/
import GoSem.Op.String
namespace Go.Proofs.Ytdhaifcjhmmdlaa.fnFinalize
set_option linter.unusedVariables false

/-! ### VLQ -/
def digs : List UInt8 := [65, 66, 67, 68, 69, 70, 71, 72, 73, 74, 75, 76, 77, 78, 79, 80, 81, 82, 83, 84, 85, 86, 87, 88, 89, 90, 97, 98, 99, 100, 101, 102, 103, 104, 105, 106, 107, 108, 109, 110, 111, 112, 113, 114, 115, 116, 117, 118, 119, 120, 121, 122, 48, 49, 50, 51, 52, 53, 54, 55, 56, 57, 43, 47]
def dig (d : Nat) : UInt8 := digs.getD d 0
def zig (n : Int) : Nat := if n < 0 then 2 * n.natAbs + 1 else 2 * n.toNat
def unzig (v : Nat) : Int := if v % 2 = 1 then -((v / 2 : Nat) : Int) else ((v / 2 : Nat) : Int)
theorem unzig_zig (n : Int) : unzig (zig n) = n := by
  unfold zig unzig
  by_cases h : n < 0
  · rw [if_pos h, if_pos (by omega)]
    omega
  · rw [if_neg h, if_neg (by omega)]
    omega
theorem zig_ne_one (n : Int) : zig n ≠ 1 := by
  unfold zig
  by_cases h : n < 0
  · rw [if_pos h]; omega
  · rw [if_neg h]; omega
theorem zig_lt (n : Int) (b : Nat) (h : -(b : Int) < n) (h2 : n < b) : zig n < 2 * b := by
  unfold zig
  split <;> omega
def vl (v : Nat) : List UInt8 := if h : v < 32 then [dig v] else dig (v % 32 + 32) :: vl (v / 32)
termination_by v
decreasing_by omega
theorem vl_small {v : Nat} (h : v < 32) : vl v = [dig v] := by rw [vl, dif_pos h]
theorem vl_big {v : Nat} (h : ¬ v < 32) : vl v = dig (v % 32 + 32) :: vl (v / 32) := by rw [vl, dif_neg h]
def vlq (n : Int) : List UInt8 := vl (zig n)
theorem vl_ne (v : Nat) : vl v ≠ [] := by
  by_cases h : v < 32
  · rw [vl_small h]; simp
  · rw [vl_big h]; simp
theorem vl_len : ∀ (k v : Nat), v < 32 ^ (k + 1) → (vl v).length ≤ k + 1 := by
  intro k
  induction k with
  | zero =>
    intro v h
    rw [vl_small (by simpa using h)]
    simp
  | succ k ih =>
    intro v h
    by_cases h32 : v < 32
    · rw [vl_small h32]; simp
    · rw [vl_big h32]
      have := ih (v / 32) (by rw [Nat.pow_succ] at h; omega)
      simp only [List.length_cons]
      omega
theorem dig_mem (d : Nat) (h : d < 64) : dig d ∈ digs := by
  unfold dig
  have hl : d < digs.length := h
  simp only [List.getD, List.getElem?_eq_getElem hl, Option.getD_some]
  exact List.getElem_mem hl
theorem vl_mem (v : Nat) : ∀ b ∈ vl v, b ∈ digs := by
  induction v using Nat.strongRecOn with
  | _ v ih =>
    intro b hb
    by_cases h : v < 32
    · rw [vl_small h] at hb
      obtain rfl := List.mem_singleton.1 hb
      exact dig_mem v (by omega)
    · rw [vl_big h] at hb
      rcases List.mem_cons.1 hb with rfl | hb
      · exact dig_mem _ (by omega)
      · exact ih (v / 32) (by omega) b hb
/-! ### items -/
structure It where
  k : Nat
  c : Bool
  d : Int
  a : Int
  b : Int
  e : Int
  nm : Option Int
def It.rest (i : It) : List UInt8 := vlq i.a ++ vlq i.b ++ vlq i.e ++ (match i.nm with | none => [] | some n => vlq n)
def It.head (i : It) : List UInt8 := List.replicate i.k 59 ++ (if i.c = true then [44] else [])
def It.txt (i : It) : List UInt8 := i.head ++ vlq i.d ++ i.rest
def rn (l : List It) : List UInt8 := l.flatMap It.txt
theorem rn_cons (i : It) (l : List It) : rn (i :: l) = i.txt ++ rn l := rfl
theorem rn_app (a b : List It) : rn (a ++ b) = rn a ++ rn b := by simp [rn]
/-- a mapping -/
structure Mp where
  line : Int
  col : Int
  src : Int
  ol : Int
  oc : Int
  nm : Int
/-- where the writing, or the reading, stands -/
structure St where
  line : Int
  col : Int
  src : Int
  ol : Int
  oc : Int
  nm : Int
def st0 : St := ⟨0, 0, 0, 0, 0, 0⟩
def St.next (s : St) (m : Mp) : St := ⟨m.line, m.col, m.src, m.ol, m.oc, if 0 ≤ m.nm then m.nm else s.nm⟩
def itOf (s : St) (fst : Bool) (m : Mp) : It :=
  ⟨(m.line - s.line).toNat, !fst && decide (s.line = m.line), m.col - (if s.line < m.line then 0 else s.col), m.src - s.src, m.ol - s.ol, m.oc - s.oc, if 0 ≤ m.nm then some (m.nm - s.nm) else none⟩
def its : St → Bool → List Mp → List It
  | _, _, [] => []
  | s, fst, m :: r => itOf s fst m :: its (s.next m) false r
def stepD (s : St) (i : It) : St := ⟨s.line + i.k, (if 0 < i.k then 0 else s.col) + i.d, s.src + i.a, s.ol + i.b, s.oc + i.e, match i.nm with | none => s.nm | some n => s.nm + n⟩
def outD (s : St) (i : It) : Mp := ⟨s.line, s.col, s.src, s.ol, s.oc, match i.nm with | none => -1 | some _ => s.nm⟩
def dec : St → List It → List Mp
  | _, [] => []
  | s, i :: r => outD (stepD s i) i :: dec (stepD s i) r
/-! ### shifts -/
structure Sh where
  line : Int
  col : Int
  aline : Int
  acol : Int
def Sh.dl (s : Sh) : Int := s.acol - s.col
def bef (s : Sh) (line col : Int) : Bool := decide (s.line < line ∨ s.line = line ∧ s.col < col)
/-- the shifts that are crossed -/
def skip (line col : Int) : List Sh → List Sh
  | s :: t :: r => if bef t line col = true then skip line col (t :: r) else s :: t :: r
  | l => l
/-- where the finalizing stands -/
structure Fs where
  line : Int
  col : Int
  prev : Int
  sh : List Sh
def Fs.go (f : Fs) (i : It) : Fs := ⟨f.line + i.k, (if 0 < i.k then 0 else f.col) + i.d, if 0 < i.k then 0 else f.prev, skip (f.line + i.k) ((if 0 < i.k then 0 else f.col) + i.d) f.sh⟩
/-- whether an item is written anew -/
def Fs.hit (f : Fs) (i : It) : Bool := decide ((f.go i).sh.length ≠ f.sh.length ∧ ((f.go i).sh.headD ⟨0, 0, 0, 0⟩).aline = f.line + i.k)
def Fs.step (f : Fs) (i : It) : Fs := if f.hit i = true then { f.go i with prev := ((f.go i).sh.headD ⟨0, 0, 0, 0⟩).dl } else f.go i
def Fs.turn (f : Fs) (i : It) : It := if f.hit i = true then { i with d := i.d + ((f.go i).sh.headD ⟨0, 0, 0, 0⟩).dl - (f.go i).prev } else i
def fin : Fs → List It → List It
  | _, [] => []
  | f, i :: r => f.turn i :: fin (f.step i) r
/-- how far a mapping is moved -/
def mv (sh : List Sh) (line col : Int) : Int := sh.foldl (fun x s => if s.line = line ∧ s.col < col then s.dl else x) 0
def moved (sh : List Sh) (m : Mp) : Mp := { m with col := m.col + mv sh m.line m.col }
/-! ### the shifts that are crossed -/
def z0 : Sh := ⟨0, 0, 0, 0⟩
structure Fine (sh : List Sh) : Prop where
  sort : sh.Pairwise fun a b => bef a b.line b.col = true
  pos : ∀ x ∈ sh, 0 ≤ x.line ∧ 0 ≤ x.col ∧ x.aline = x.line
theorem bef_iff (s : Sh) (line col : Int) : bef s line col = true ↔ (s.line < line ∨ s.line = line ∧ s.col < col) := by unfold bef; rw [decide_eq_true_eq]
theorem bef_trans {a b : Sh} {line col : Int} (h : bef a b.line b.col = true) (k : bef b line col = true) : bef a line col = true := by
  rw [bef_iff] at *
  omega
/-- what skip leaves -/
theorem skip_spec (line col : Int) : ∀ (t : List Sh) (h : Sh), (h :: t).Pairwise (fun a b => bef a b.line b.col = true) →
    ∃ q h' t', skip line col (h :: t) = h' :: t' ∧ h :: t = q ++ h' :: t' ∧ (q ≠ [] → bef h' line col = true) ∧ (∀ x ∈ t', bef x line col = false) := by
  intro t
  induction t with
  | nil => intro h _; exact ⟨[], h, [], rfl, rfl, fun e => absurd rfl e, fun x hx => by cases hx⟩
  | cons b r ih =>
    intro h hs
    unfold skip
    have hs2 := (List.pairwise_cons.1 hs).2
    by_cases hb : bef b line col = true
    · rw [if_pos hb]
      obtain ⟨q, h', t', e1, e2, e3, e4⟩ := ih b hs2
      refine ⟨h :: q, h', t', e1, by rw [e2]; rfl, fun _ => ?_, e4⟩
      cases q with
      | nil =>
        simp only [List.nil_append, List.cons.injEq] at e2
        rw [← e2.1]; exact hb
      | cons x q => exact e3 (by simp)
    · rw [if_neg hb]
      refine ⟨[], h, b :: r, rfl, rfl, fun e => absurd rfl e, fun x hx => ?_⟩
      cases hc : bef x line col with
      | false => rfl
      | true =>
        rcases List.mem_cons.1 hx with rfl | hx
        · exact absurd hc hb
        · exact absurd (bef_trans ((List.pairwise_cons.1 hs2).1 x hx) hc) hb
theorem mv_none (line col : Int) : ∀ (l : List Sh) (x : Int), (∀ s ∈ l, ¬ (s.line = line ∧ s.col < col)) → l.foldl (fun x s => if s.line = line ∧ s.col < col then s.dl else x) x = x := by
  intro l
  induction l with
  | nil => intro x _; rfl
  | cons s r ih =>
    intro x h
    rw [List.foldl_cons, if_neg (h s List.mem_cons_self)]
    exact ih x (fun s hs => h s (List.mem_cons_of_mem _ hs))
/-- where the shifts stand at a place -/
structure At (SH : List Sh) (line col : Int) (h : Sh) (t : List Sh) : Prop where
  pre : ∃ p, SH = p ++ h :: t ∧ (p = [] → h = z0) ∧ (p ≠ [] → bef h line col = true)
  not : ∀ x ∈ t, bef x line col = false
theorem At.mv {SH : List Sh} {line col : Int} {h : Sh} {t : List Sh} (hf : Fine SH) (ha : At SH line col h t) (hl : 0 ≤ line) : mv SH line col = if h.line = line then h.dl else 0 := by
  obtain ⟨⟨p, rfl, hz, hb⟩, hn⟩ := ha
  unfold fnFinalize.mv
  rw [List.foldl_append, List.foldl_cons]
  have ht : ∀ s ∈ t, ¬ (s.line = line ∧ s.col < col) := fun s hs hc => by
    have := hn s hs
    have h2 : bef s line col = true := (bef_iff _ _ _).2 (.inr hc)
    rw [this] at h2; cases h2
  rw [mv_none line col t _ ht]
  have hsort := hf.sort
  rw [List.pairwise_append] at hsort
  by_cases hp : p = []
  · subst hp
    obtain rfl := hz rfl
    simp only [List.foldl_nil, z0, Sh.dl, Int.sub_self, ite_self]
  · have hb := hb hp
    rw [bef_iff] at hb
    by_cases e : h.line = line
    · rw [if_pos e, if_pos (by omega)]
    · rw [if_neg e, if_neg (by omega)]
      refine mv_none line col p 0 fun s hs hc => ?_
      have := hsort.2.2 s hs h List.mem_cons_self
      rw [bef_iff] at this
      omega
/-- the reading of what is written anew stands where the writing stands -/
structure Run (SH : List Sh) (s : St) (f : Fs) (s' : St) : Prop where
  fl : f.line = s.line
  fc : f.col = s.col
  dl : s'.line = s.line
  dc : s'.col = s.col + f.prev
  rest : s'.src = s.src ∧ s'.ol = s.ol ∧ s'.oc = s.oc ∧ s'.nm = s.nm
  pos : 0 ≤ s.line
  sh : ∃ h t, f.sh = h :: t ∧ At SH s.line s.col h t ∧ f.prev = if h.line = s.line then h.dl else 0
theorem Run.start {SH r : List Sh} (hf : Fine SH) (h : SH = z0 :: r) : Run SH st0 ⟨0, 0, 0, SH⟩ st0 := by
  subst h
  refine ⟨rfl, rfl, rfl, rfl, ⟨rfl, rfl, rfl, rfl⟩, Int.le_refl 0, z0, r, rfl, ⟨⟨[], rfl, fun _ => rfl, fun e => absurd rfl e⟩, fun x hx => ?_⟩, by simp [z0, Sh.dl]⟩
  cases hc : bef x st0.line st0.col with
  | false => rfl
  | true =>
    have := hf.pos x (List.mem_cons_of_mem _ hx)
    rw [bef_iff] at hc
    simp only [st0] at hc
    omega
theorem Run.step {SH : List Sh} {s s' : St} {f : Fs} (hf : Fine SH) (h : Run SH s f s') (fst : Bool) (m : Mp) (hl : s.line ≤ m.line) (hc : s.line = m.line → s.col ≤ m.col) (hn : -1 ≤ m.nm) :
    Run SH (s.next m) (f.step (itOf s fst m)) (stepD s' (f.turn (itOf s fst m))) ∧ outD (stepD s' (f.turn (itOf s fst m))) (f.turn (itOf s fst m)) = moved SH m := by
  obtain ⟨h1, h2, h3, h4, ⟨r1, r2, r3, r4⟩, hpos, hh, t, hsh, ⟨⟨p, hSH, hz, hb⟩, hnot⟩, hprev⟩ := h
  have hk : (0 < (itOf s fst m).k) ↔ s.line < m.line := by show 0 < (m.line - s.line).toNat ↔ _; omega
  have hgl : f.line + (itOf s fst m).k = m.line := by rw [h1]; show s.line + ((m.line - s.line).toNat : Int) = _; omega
  have hgc : (if 0 < (itOf s fst m).k then 0 else f.col) + (itOf s fst m).d = m.col := by
    show (if 0 < (itOf s fst m).k then 0 else f.col) + (m.col - (if s.line < m.line then 0 else s.col)) = m.col
    rw [h2]
    by_cases e : s.line < m.line
    · rw [if_pos (hk.2 e), if_pos e]; omega
    · rw [if_neg (fun x => e (hk.1 x)), if_neg e]; omega
  have hgo : f.go (itOf s fst m) = ⟨m.line, m.col, if s.line < m.line then 0 else f.prev, skip m.line m.col f.sh⟩ := by
    unfold Fs.go
    rw [hgl, hgc]
    congr 1
    by_cases e : s.line < m.line
    · rw [if_pos (hk.2 e), if_pos e]
    · rw [if_neg (fun x => e (hk.1 x)), if_neg e]
  have hsort : (hh :: t).Pairwise fun a b => bef a b.line b.col = true := by
    have := hf.sort
    rw [hSH, List.pairwise_append] at this
    exact this.2.1
  obtain ⟨q, h', t', k1, k2, k3, k4⟩ := skip_spec m.line m.col t hh hsort
  rw [← hsh] at k1
  -- a place that is no farther
  have later : ∀ x : Sh, bef x s.line s.col = true → bef x m.line m.col = true := fun x hx => by
    rw [bef_iff] at *
    omega
  have hat : At SH m.line m.col h' t' := by
    refine ⟨⟨p ++ q, by rw [hSH, k2, List.append_assoc], fun e => ?_, fun e => ?_⟩, k4⟩
    · obtain ⟨e1, e2⟩ := List.append_eq_nil_iff.1 e
      subst e2
      simp only [List.nil_append, List.cons.injEq] at k2
      rw [← k2.1]; exact hz e1
    · by_cases hq : q = []
      · subst hq
        simp only [List.nil_append, List.cons.injEq] at k2
        rw [← k2.1]
        refine later _ (hb fun e1 => e ?_)
        rw [e1]; rfl
      · exact k3 hq
  have hmem : h' ∈ SH := by rw [hSH, k2]; simp
  obtain ⟨p1, p2, p3⟩ := hf.pos h' hmem
  have hlen : (skip m.line m.col f.sh).length ≠ f.sh.length ↔ q ≠ [] := by
    rw [k1, hsh, k2, List.length_append]
    constructor
    · rintro e rfl; exact e (by simp)
    · intro e
      have := List.length_pos_iff.2 e
      omega
  -- what is told of the move
  have hmv := hat.mv hf (by omega : 0 ≤ m.line)
  have hhit : f.hit (itOf s fst m) = true ↔ (q ≠ [] ∧ h'.line = m.line) := by
    unfold Fs.hit
    rw [decide_eq_true_eq, hgo, hgl]
    show (skip m.line m.col f.sh).length ≠ f.sh.length ∧ ((skip m.line m.col f.sh).headD ⟨0, 0, 0, 0⟩).aline = m.line ↔ _
    rw [hlen, k1]
    show q ≠ [] ∧ h'.aline = m.line ↔ _
    rw [p3]
  have hd : ((f.go (itOf s fst m)).sh.headD ⟨0, 0, 0, 0⟩).dl = h'.dl := by
    rw [hgo]
    show ((skip m.line m.col f.sh).headD ⟨0, 0, 0, 0⟩).dl = _
    rw [k1]; rfl
  -- where no shift is crossed on the line
  have hkeep : ¬ (q ≠ [] ∧ h'.line = m.line) → (if s.line < m.line then 0 else f.prev) = if h'.line = m.line then h'.dl else 0 := by
    intro hno
    by_cases hq : q = []
    · subst hq
      simp only [List.nil_append, List.cons.injEq] at k2
      obtain ⟨rfl, rfl⟩ := k2
      by_cases e : s.line < m.line
      · rw [if_pos e]
        by_cases hp : p = []
        · obtain rfl := hz hp
          simp [z0, Sh.dl]
        · have := hb hp
          rw [bef_iff] at this
          rw [if_neg (by omega)]
      · rw [if_neg e, hprev]
        have : s.line = m.line := by omega
        rw [this]
    · have hne : h'.line ≠ m.line := fun e => hno ⟨hq, e⟩
      rw [if_neg hne]
      by_cases e : s.line < m.line
      · rw [if_pos e]
      · exfalso
        have hb2 := k3 hq
        have h't : h' ∈ t := by
          cases q with
          | nil => exact absurd rfl hq
          | cons x q =>
            simp only [List.cons_append, List.cons.injEq] at k2
            rw [k2.2]; simp
        have := hnot h' h't
        have h5 : ¬ bef h' s.line s.col = true := by rw [this]; simp
        rw [bef_iff] at h5 hb2
        omega
  have hdl : s'.line + (itOf s fst m).k = m.line := by rw [h3, ← h1]; exact hgl
  have ha : (itOf s fst m).a = m.src - s.src := rfl
  have hbb : (itOf s fst m).b = m.ol - s.ol := rfl
  have he : (itOf s fst m).e = m.oc - s.oc := rfl
  have hdd : (itOf s fst m).d = m.col - (if s.line < m.line then 0 else s.col) := rfl
  have hnmI : (itOf s fst m).nm = if 0 ≤ m.nm then some (m.nm - s.nm) else none := rfl
  by_cases hh : f.hit (itOf s fst m) = true
  · have hq := hhit.1 hh
    have hturn : f.turn (itOf s fst m) = { itOf s fst m with d := (itOf s fst m).d + h'.dl - (if s.line < m.line then 0 else f.prev) } := by
      unfold Fs.turn
      rw [if_pos hh, hd, hgo]
    have hstep : f.step (itOf s fst m) = ⟨m.line, m.col, h'.dl, skip m.line m.col f.sh⟩ := by
      unfold Fs.step
      rw [if_pos hh, hd, hgo]
    have hS : stepD s' (f.turn (itOf s fst m)) = ⟨m.line, m.col + h'.dl, m.src, m.ol, m.oc, if 0 ≤ m.nm then m.nm else s.nm⟩ := by
      rw [hturn]
      unfold stepD
      simp only [ha, hbb, he, hnmI, hdd]
      have c1 : (if 0 < (itOf s fst m).k then 0 else s'.col) + (m.col - (if s.line < m.line then 0 else s.col) + h'.dl - (if s.line < m.line then 0 else f.prev)) = m.col + h'.dl := by
        rw [h4]
        by_cases e : s.line < m.line
        · rw [if_pos (hk.2 e), if_pos e, if_pos e]; omega
        · rw [if_neg (fun x => e (hk.1 x)), if_neg e, if_neg e]; omega
      rw [c1, hdl, r1, r2, r3, r4]
      congr 1
      · omega
      · omega
      · omega
      · by_cases e : 0 ≤ m.nm
        · rw [if_pos e, if_pos e]; show s.nm + (m.nm - s.nm) = m.nm; omega
        · rw [if_neg e, if_neg e]
    refine ⟨⟨by rw [hstep]; rfl, by rw [hstep]; rfl, by rw [hS]; rfl, by rw [hS, hstep]; rfl, by rw [hS]; exact ⟨rfl, rfl, rfl, rfl⟩, by show 0 ≤ m.line; omega, h', t', by rw [hstep]; exact k1, hat, by rw [hstep]; show h'.dl = if h'.line = m.line then h'.dl else 0; rw [if_pos hq.2]⟩, ?_⟩
    rw [hS, hturn]
    unfold outD moved
    rw [hmv, if_pos hq.2]
    simp only [hnmI]
    by_cases e : 0 ≤ m.nm
    · rw [if_pos e, if_pos e]
    · rw [if_neg e, if_neg e]
      have : m.nm = -1 := by omega
      cases m; simp_all
  · have hq : ¬ (q ≠ [] ∧ h'.line = m.line) := fun e => hh (hhit.2 e)
    have hkp := hkeep hq
    have hturn : f.turn (itOf s fst m) = itOf s fst m := by unfold Fs.turn; rw [if_neg hh]
    have hstep : f.step (itOf s fst m) = ⟨m.line, m.col, if s.line < m.line then 0 else f.prev, skip m.line m.col f.sh⟩ := by
      unfold Fs.step
      rw [if_neg hh, hgo]
    have hS : stepD s' (f.turn (itOf s fst m)) = ⟨m.line, m.col + (if s.line < m.line then 0 else f.prev), m.src, m.ol, m.oc, if 0 ≤ m.nm then m.nm else s.nm⟩ := by
      rw [hturn]
      unfold stepD
      simp only [ha, hbb, he, hnmI, hdd]
      have c1 : (if 0 < (itOf s fst m).k then 0 else s'.col) + (m.col - (if s.line < m.line then 0 else s.col)) = m.col + (if s.line < m.line then 0 else f.prev) := by
        rw [h4]
        by_cases e : s.line < m.line
        · rw [if_pos (hk.2 e), if_pos e, if_pos e]; omega
        · rw [if_neg (fun x => e (hk.1 x)), if_neg e, if_neg e]; omega
      rw [c1, hdl, r1, r2, r3, r4]
      congr 1
      · omega
      · omega
      · omega
      · by_cases e : 0 ≤ m.nm
        · rw [if_pos e, if_pos e]; show s.nm + (m.nm - s.nm) = m.nm; omega
        · rw [if_neg e, if_neg e]
    refine ⟨⟨by rw [hstep]; rfl, by rw [hstep]; rfl, by rw [hS]; rfl, by rw [hS, hstep]; rfl, by rw [hS]; exact ⟨rfl, rfl, rfl, rfl⟩, by show 0 ≤ m.line; omega, h', t', by rw [hstep]; exact k1, hat, by rw [hstep]; exact hkp⟩, ?_⟩
    rw [hS, hturn]
    unfold outD moved
    rw [hmv, hkp]
    simp only [hnmI]
    by_cases e : 0 ≤ m.nm
    · rw [if_pos e, if_pos e]
    · rw [if_neg e, if_neg e]
      have : m.nm = -1 := by omega
      cases m; simp_all
/-- mappings in order -/
def Ord : St → List Mp → Prop
  | _, [] => True
  | s, m :: r => s.line ≤ m.line ∧ (s.line = m.line → s.col ≤ m.col) ∧ -1 ≤ m.nm ∧ Ord (s.next m) r
/-- what is read of what is written anew is what is wanted -/
theorem fin_dec {SH : List Sh} (hf : Fine SH) : ∀ (l : List Mp) (s s' : St) (f : Fs) (fst : Bool), Run SH s f s' → Ord s l → dec s' (fin f (its s fst l)) = l.map (moved SH) := by
  intro l
  induction l with
  | nil => intro s s' f fst _ _; rfl
  | cons m r ih =>
    intro s s' f fst hr ho
    obtain ⟨o1, o2, o3, o4⟩ := ho
    obtain ⟨h1, h2⟩ := hr.step hf fst m o1 o2 o3
    show outD (stepD s' (f.turn (itOf s fst m))) (f.turn (itOf s fst m)) :: dec _ (fin (f.step (itOf s fst m)) (its (s.next m) false r)) = moved SH m :: r.map (moved SH)
    rw [h2, ih _ _ _ _ h1 o4]
end Go.Proofs.Ytdhaifcjhmmdlaa.fnFinalize
