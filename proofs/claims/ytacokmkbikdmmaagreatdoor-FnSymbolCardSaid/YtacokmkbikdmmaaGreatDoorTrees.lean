/-
  Trees of expressions as they lie in memory, by depth: what a tree's cells are, and what is asked of them.
  Conditions: none.
-/
import Derived.Deep.Slices
import Derived.SizedLaws
import Derived.ChangeArms
import Derived.Test.YtacokmkbikdmmaaGreatDoorProg
import Derived.KernelRfl
import Derived.WalkKit
import Derived.ProofKit
import Derived.Below
namespace Go.Proofs.YtacokmkbikdmmaaGreatDoor.trees
open Go Go.RowKit
set_option linter.unusedVariables false

/-- an expression's cells -/
structure X where
  kind : Int
  op : Int
  ref : Int
  chain : Int
  flags : Int
  num : Nat
  sa : Option Addr
  sn : Nat
  sc : Nat
  text : ByteArray
  ka : Option Addr
  kn : Nat
  kc : Nat
  pa : Option Addr
  pn : Nat
  pc : Nat
  qa : Option Addr
  qn : Nat
  qc : Nat
  fa : Option Addr
  fn : Nat
  fc : Nat
  ca : Option Addr
  cn : Nat
  cc : Nat
def X.cells (x : X) : List Value := [.int .i64 x.kind, .int .i64 x.op, .int .i64 x.ref, .int .i64 x.chain, .int .i64 x.flags, .float .f64 x.num, .slice x.sa x.sn x.sc, .string x.text, .slice x.ka x.kn x.kc, .slice x.pa x.pn x.pc, .slice x.qa x.qn x.qc, .slice x.fa x.fn x.fc, .slice x.ca x.cn x.cc]
/-- a slice's elements, each of sz cells -/
def rows (W : World) (N sz : Nat) (A : Option Addr) (len cap : Nat) (R : List Value → Prop) : Prop :=
  len ≤ cap ∧ (cap ≤ 9223372036854775807 ∧ (A = none → cap = 0)) ∧ (len ≠ 0 → ∃ g o, A = some ⟨g, o, none⟩ ∧ g < N ∧ ∀ i, i < len → ∃ cs, cs.length = sz ∧ R cs ∧ ∀ j u, cs[j]? = some u → W.cell? ⟨g, o + i * sz + j, none⟩ = some u)
/-- code units -/
def unit (c : List Value) : Prop := ∃ u : Int, c = [.int .u16 u] ∧ 0 ≤ u ∧ u ≤ 65535
/-- what is asked of an expression, of a property (how many keys, values), of a part (how many values, units) -/
structure Cnd where
  x : X → Prop
  p : Int → Int → Nat → Nat → Prop
  q : Nat → Nat → Prop
/-- an expression of depth at most n -/
def Ex (c : Cnd) (N : Nat) (W : World) : Nat → List Value → Prop
  | 0, _ => False
  | n + 1, cs => ∃ x : X, cs = x.cells ∧ c.x x ∧ rows W N 1 x.sa x.sn x.sc unit ∧ rows W N 13 x.ka x.kn x.kc (Ex c N W n) ∧
    rows W N 4 x.pa x.pn x.pc (fun e => ∃ (k f : Int) (ka : Option Addr) (kn kc : Nat) (va : Option Addr) (vn vc : Nat), e = [.int .i64 k, .int .i64 f, .slice ka kn kc, .slice va vn vc] ∧ c.p k f kn vn ∧ rows W N 13 ka kn kc (Ex c N W n) ∧ rows W N 13 va vn vc (Ex c N W n)) ∧
    rows W N 3 x.qa x.qn x.qc (fun e => ∃ (va : Option Addr) (vn vc : Nat) (sa : Option Addr) (sn sc : Nat) (t : ByteArray), e = [.slice va vn vc, .slice sa sn sc, .string t] ∧ c.q vn sn ∧ rows W N 13 va vn vc (Ex c N W n) ∧ rows W N 1 sa sn sc unit)
def PropR (c : Cnd) (N : Nat) (W : World) (n : Nat) (e : List Value) : Prop := ∃ (k f : Int) (ka : Option Addr) (kn kc : Nat) (va : Option Addr) (vn vc : Nat), e = [.int .i64 k, .int .i64 f, .slice ka kn kc, .slice va vn vc] ∧ c.p k f kn vn ∧ rows W N 13 ka kn kc (Ex c N W n) ∧ rows W N 13 va vn vc (Ex c N W n)
def PartR (c : Cnd) (N : Nat) (W : World) (n : Nat) (e : List Value) : Prop := ∃ (va : Option Addr) (vn vc : Nat) (sa : Option Addr) (sn sc : Nat) (t : ByteArray), e = [.slice va vn vc, .slice sa sn sc, .string t] ∧ c.q vn sn ∧ rows W N 13 va vn vc (Ex c N W n) ∧ rows W N 1 sa sn sc unit
theorem Ex_succ {c : Cnd} {N n : Nat} {W : World} {cs : List Value} : Ex c N W (n + 1) cs ↔ ∃ x : X, cs = x.cells ∧ c.x x ∧ rows W N 1 x.sa x.sn x.sc unit ∧ rows W N 13 x.ka x.kn x.kc (Ex c N W n) ∧ rows W N 4 x.pa x.pn x.pc (PropR c N W n) ∧ rows W N 3 x.qa x.qn x.qc (PartR c N W n) := Iff.rfl

theorem rows.nil {W : World} {N sz : Nat} {A : Option Addr} {cap : Nat} {R : List Value → Prop} (h : cap ≤ 9223372036854775807 ∧ (A = none → cap = 0)) : rows W N sz A 0 cap R := ⟨Nat.zero_le _, h, fun h => absurd rfl h⟩
theorem rows.imp {W W' : World} {N N' sz : Nat} {A : Option Addr} {len cap : Nat} {R R' : List Value → Prop} (h : rows W N sz A len cap R) (hN : N ≤ N') (hc : ∀ g o v, g < N → W.cell? ⟨g, o, none⟩ = some v → W'.cell? ⟨g, o, none⟩ = some v) (hR : ∀ cs, R cs → R' cs) : rows W' N' sz A len cap R' := by
  obtain ⟨h1, h2, h3⟩ := h
  refine ⟨h1, h2, fun hne => ?_⟩
  obtain ⟨g, o, e, hg, hi⟩ := h3 hne
  refine ⟨g, o, e, Nat.lt_of_lt_of_le hg hN, fun i hil => ?_⟩
  obtain ⟨cs, hl, hr, hcs⟩ := hi i hil
  exact ⟨cs, hl, hR cs hr, fun j u hu => hc g _ u hg (hcs j u hu)⟩
theorem rows.lt {W : World} {N sz : Nat} {A : Option Addr} {len cap : Nat} {R : List Value → Prop} (h : rows W N sz A len cap R) : len ≤ 9223372036854775807 := Nat.le_trans h.1 h.2.1.1
/-- the i-th element -/
theorem rows.at {W : World} {N sz : Nat} {A : Option Addr} {len cap : Nat} {R : List Value → Prop} (h : rows W N sz A len cap R) {i : Nat} (hi : i < len) :
    ∃ g o cs, A = some ⟨g, o, none⟩ ∧ g < N ∧ cs.length = sz ∧ R cs ∧ (∀ j u, cs[j]? = some u → W.cell? ⟨g, o + i * sz + j, none⟩ = some u) ∧ (∀ R' : List Value → Prop, R' cs → rows W N sz A i cap R' → rows W N sz A (i + 1) cap R') := by
  obtain ⟨h1, h2, h3⟩ := h
  obtain ⟨g, o, e, hg, ha⟩ := h3 (by omega)
  obtain ⟨cs, hl, hr, hcs⟩ := ha i hi
  refine ⟨g, o, cs, e, hg, hl, hr, hcs, fun R' hr' hrows => ⟨by omega, h2, fun _ => ⟨g, o, e, hg, fun k hk => ?_⟩⟩⟩
  by_cases hki : k = i
  · subst hki
    exact ⟨cs, hl, hr', hcs⟩
  · obtain ⟨g', o', e', _, ha'⟩ := hrows.2.2 (by omega)
    rw [e] at e'
    cases e'
    exact ha' k (by omega)
theorem Ex.imp {c c' : Cnd} {N N' : Nat} {W W' : World} (hN : N ≤ N') (hc : ∀ g o v, g < N → W.cell? ⟨g, o, none⟩ = some v → W'.cell? ⟨g, o, none⟩ = some v) (hx : ∀ x, c.x x → c'.x x) (hp : ∀ a b d e, c.p a b d e → c'.p a b d e) (hq : ∀ a b, c.q a b → c'.q a b) :
    ∀ (n m : Nat) (cs : List Value), n ≤ m → Ex c N W n cs → Ex c' N' W' m cs := by
  intro n
  induction n with
  | zero => exact fun _ _ _ h => h.elim
  | succ n ih =>
    intro m cs hnm h
    cases m with
    | zero => omega
    | succ m =>
      obtain ⟨x, e, h1, h2, h3, h4, h5⟩ := h
      have ih := fun cs => ih m cs (by omega)
      refine ⟨x, e, hx x h1, h2.imp hN hc (fun _ h => h), h3.imp hN hc ih, h4.imp hN hc ?_, h5.imp hN hc ?_⟩
      · rintro cs ⟨k, f, ka, kn, kc, va, vn, vc, e, p, a, b⟩
        exact ⟨k, f, ka, kn, kc, va, vn, vc, e, hp _ _ _ _ p, a.imp hN hc ih, b.imp hN hc ih⟩
      · rintro cs ⟨va, vn, vc, sa, sn, sc, t, e, q, a, b⟩
        exact ⟨va, vn, vc, sa, sn, sc, t, e, hq _ _ q, a.imp hN hc ih, b.imp hN hc (fun _ h => h)⟩
theorem below_cells {N : Nat} {W W' : World} (hb : Below N W W') : ∀ g o v, g < N → W.cell? ⟨g, o, none⟩ = some v → W'.cell? ⟨g, o, none⟩ = some v := fun g o v hg h => (World.cell?_of_block (hb.block g hg)).trans h
theorem Ex.below {c : Cnd} {N n : Nat} {W W' : World} {cs : List Value} (h : Ex c N W n cs) (hb : Below N W W') : Ex c N W' n cs := Ex.imp (Nat.le_refl _) (below_cells hb) (fun _ h => h) (fun _ _ _ _ h => h) (fun _ _ h => h) n n cs (Nat.le_refl _) h
theorem Ex.back {c : Cnd} {N n : Nat} {W W' : World} {cs : List Value} (h : Ex c N W' n cs) (hb : Below N W W') : Ex c N W n cs := Ex.imp (Nat.le_refl _) (fun g o v hg h => (World.cell?_of_block (hb.block g hg)).symm.trans h) (fun _ h => h) (fun _ _ _ _ h => h) (fun _ _ h => h) n n cs (Nat.le_refl _) h
/-- what a call that begins in W1 may do, seen from W -/
theorem bl {N : Nat} {W W1 w2 : World} (h0 : Below N W W1) (hN : N ≤ W.heap.size) (h1 : Below W1.heap.size W1 w2) : Below N W w2 := h0.trans (h1.mono (Nat.le_trans hN h0.size))
theorem bl2 {W1 w1 w2 : World} (h1 : Below W1.heap.size W1 w1) (h2 : Below w1.heap.size w1 w2) : Below W1.heap.size W1 w2 := h1.trans (h2.mono h1.size)
theorem inp {N : Nat} {W W' : World} (hb : Below N W W') {g o : Nat} {v : Value} (hg : g < N) (h : W.cell? ⟨g, o, none⟩ = some v) : W'.cell? ⟨g, o, none⟩ = some v := below_cells hb g o v hg h
theorem Ex.len {c : Cnd} {N n : Nat} {W : World} {cs : List Value} (h : Ex c N W n cs) : cs.length = 13 := by
  cases n with
  | zero => exact h.elim
  | succ n => obtain ⟨x, rfl, _⟩ := h; rfl
open Go.Deep
/-- no list in a datum takes more bytes than a list can -/
def Wb {H : Type} (P : Program) (t : TypeId) (d : DataW H) : Prop := ∀ m ∈ d.weights P t, m ≤ reachBytes
theorem weightsAll_mem {H : Type} {P : Program} {e : TypeId} {d : DataW H} {n : Nat} : ∀ {ds : List (DataW H)}, d ∈ ds → n ∈ d.weights P e → n ∈ DataW.weightsAll P e ds
  | [], h, _ => by cases h
  | x :: r, h, hn => by
    unfold DataW.weightsAll
    rcases List.mem_cons.1 h with rfl | h
    · exact List.mem_append_left _ hn
    · exact List.mem_append_right _ (weightsAll_mem h hn)
section
variable {H : Type} {enc : TypeId × Value → H} {P : Program} {W : World} {base : Nat} {spare : Nat → Bool} {held : Bool}
theorem open_rows {t e sz fuel : Nat} {cs : List Value} {x : DataW H × List MemPlace} (ht : P.underlying t = some (.slice e)) (hsz : P.cellsOf e = sz) (hs : 0 < sz) (h : DataW.trod enc P W base spare held fuel t cs = some x) :
    ∃ A len cap, cs = [.slice A len cap] ∧ rows W W.heap.size sz A len cap (fun c => ∃ n y, n + 1 = fuel ∧ DataW.trod enc P W base spare held n e c = some y ∧ (Wb P t x.1 → Wb P e y.1)) := by
  rcases DataW.trod_slice ht h with ⟨rfl, _⟩ | ⟨a, len, cap, elems, rest, n, hn, rfl, rfl, hb, hl, hm, hlen, hel, _, _⟩
  · exact ⟨none, 0, 0, rfl, rows.nil ⟨Nat.zero_le _, fun _ => rfl⟩⟩
  · rw [hsz] at hel
    have each : ∀ i, i < len → ∃ cs', W.cells? base (a.add (i * sz)) sz = some cs' ∧ ∃ y, y ∈ elems ∧ DataW.trod enc P W base spare held n e cs' = some y := by
      intro i hi
      have k := hel i hi
      rw [List.getElem?_eq_getElem (by omega)] at k
      obtain ⟨cs', h1, h2⟩ := Option.bind_eq_some_iff.1 k
      exact ⟨cs', h1, _, List.getElem_mem _, h2⟩
    refine ⟨some a, len, cap, rfl, hl, ⟨by unfold maxLen at hm; omega, fun h => by cases h⟩, fun hne => ?_⟩
    obtain ⟨g, o, sp⟩ := a
    obtain ⟨c0, hc0, _⟩ := each 0 (by omega)
    obtain ⟨_, hl0, hat0⟩ := World.cells?_some hc0
    have h00 := hat0 0 hs
    rw [Nat.zero_mul, show (⟨g, o, sp⟩ : Addr).add 0 = ⟨g, o, sp⟩ from rfl] at h00
    rw [show (⟨g, o, sp⟩ : Addr).add 0 = ⟨g, o, sp⟩ from rfl] at h00
    have hlt : ∃ v, W.cell? ⟨g, o, sp⟩ = some v := ⟨c0[0]'(by omega), by rw [h00]; exact List.getElem?_eq_getElem (by omega)⟩
    obtain ⟨v, hv⟩ := hlt
    obtain rfl : sp = none := by
      cases sp with
      | none => rfl
      | some q =>
        unfold World.cell? at hv
        split at hv
        · simp at hv
        · cases hv
    have ad : ∀ k, (⟨g, o, none⟩ : Addr).add k = ⟨g, o + k, none⟩ := fun k => by
      unfold Addr.add
      split
      · subst_vars
        rfl
      · rfl
    refine ⟨g, o, rfl, World.block_lt_of_cell? W _ hv, fun i hi => ?_⟩
    obtain ⟨cs', hc, y, hm, hy⟩ := each i hi
    obtain ⟨_, hcl, hat⟩ := World.cells?_some hc
    refine ⟨cs', hcl, ⟨n, y, hn.symm, hy, fun hw k hk => hw k ?_⟩, fun j u hu => ?_⟩
    · unfold DataW.weights
      simp only [ht]
      exact List.mem_cons_of_mem _ (List.mem_append_left _ (weightsAll_mem (List.mem_map_of_mem hm) hk))
    have hj : j < sz := by
      have := (List.getElem?_eq_some_iff.1 hu).1
      omega
    have e1 := hat j hj
    rw [Go.Deep.add_add, ad] at e1
    rw [← Nat.add_assoc] at e1
    rw [e1]
    exact hu
end
theorem X.inj {x y : X} (h : x.cells = y.cells) : x = y := by
  cases x
  cases y
  unfold X.cells at h
  simp only [List.cons.injEq, Value.int.injEq, Value.float.injEq, Value.slice.injEq, Value.string.injEq, true_and, and_true] at h
  simp only [X.mk.injEq]
  obtain ⟨h0, h1, h2, h3, h4, h5, ⟨h6, h7, h8⟩, h9, ⟨h10, h11, h12⟩, ⟨h13, h14, h15⟩, ⟨h16, h17, h18⟩, ⟨h19, h20, h21⟩, h22, h23, h24⟩ := h
  exact ⟨h0, h1, h2, h3, h4, h5, h6, h7, h8, h9, h10, h11, h12, h13, h14, h15, h16, h17, h18, h19, h20, h21, h22, h23, h24⟩
theorem Ex_x {c : Cnd} {N n : Nat} {W : World} {x : X} : Ex c N W (n + 1) x.cells ↔ c.x x ∧ rows W N 1 x.sa x.sn x.sc unit ∧ rows W N 13 x.ka x.kn x.kc (Ex c N W n) ∧ rows W N 4 x.pa x.pn x.pc (PropR c N W n) ∧ rows W N 3 x.qa x.qn x.qc (PartR c N W n) := by
  constructor
  · rintro ⟨y, e, h⟩
    obtain rfl := X.inj e
    exact h
  · exact fun h => ⟨x, rfl, h⟩
theorem Ex.cells {c : Cnd} {N n : Nat} {W : World} {cs : List Value} (h : Ex c N W n cs) : ∃ x : X, cs = x.cells := by
  cases n with
  | zero => exact h.elim
  | succ n => exact ⟨h.choose, h.choose_spec.1⟩
/-- no list is as long as none is -/
structure Sz (x : X) : Prop where
  fns : x.fn ≤ 1125899906842624
  classes : x.cn ≤ 1125899906842624
  op : -9223372036854775808 ≤ x.op ∧ x.op ≤ 9223372036854775807
  ref : -9223372036854775808 ≤ x.ref ∧ x.ref ≤ 9223372036854775807
  chain : -9223372036854775808 ≤ x.chain ∧ x.chain ≤ 9223372036854775807
  flags : -9223372036854775808 ≤ x.flags ∧ x.flags ≤ 9223372036854775807
/-- nothing is asked -/
def C0 : Cnd := ⟨Sz, fun _ _ _ _ => True, fun _ _ => True⟩
/-- what shallow tells -/
structure Short (x : X) : Prop where
  sz : Sz x
  str : x.sn ≤ 1000
  text : x.text.size ≤ 1000
  kids : x.kn ≤ 200
  props : x.pn ≤ 200
  parts : x.qn ≤ 200
def C1 : Cnd := ⟨Short, fun _ _ k v => k ≤ 1 ∧ v = 1, fun v s => v = 1 ∧ s ≤ 1000⟩
/-- what a kind asks of the number of its parts, and of its chain -/
structure Kc (x : X) : Prop where
  lo : 0 ≤ x.kind
  hi : x.kind ≤ 26
  fns : x.fn = 0
  classes : x.cn = 0
  spread : x.kind = 10 → x.kn = 1
  unary : x.kind = 13 → x.kn = 1
  binary : x.kind = 14 → x.kn = 2
  test : x.kind = 15 → x.kn = 3
  dot : x.kind = 16 → x.kn = 1
  index : x.kind = 17 → x.kn = 2
  call : x.kind = 18 → 0 < x.kn
  new : x.kind = 19 → 0 < x.kn
  templ : x.kind = 20 → x.kn < 2
  note : x.kind = 23 → x.kn = 1
  enum : x.kind = 24 → x.kn = 1
  chain : x.kind = 16 ∨ x.kind = 17 ∨ x.kind = 18 → 0 ≤ x.chain ∧ x.chain ≤ 2
/-- which flags a kind has -/
def flagsOf (k : Int) : Int := if k = 4 then 256 else if k = 8 then 11 else if k = 13 then 48 else if k = 16 then 7 else if k = 17 then 7 else if k = 18 then 64 else if k = 19 then 64 else if k = 20 then 192 else 0
/-- the fields that a kind does not use are zero -/
structure Kz (x : X) : Prop where
  op : x.kind = 13 ∨ x.kind = 14 ∨ x.kind = 18 ∨ x.op = 0
  ref : x.kind = 8 ∨ x.ref = 0
  chain : x.kind = 16 ∨ x.kind = 17 ∨ x.kind = 18 ∨ x.chain = 0
  num : x.kind = 2 ∨ x.kind = 3 ∨ x.num = 0
  str : x.kind = 4 ∨ x.kind = 20 ∨ x.sn = 0
  text : x.kind = 5 ∨ x.kind = 6 ∨ x.kind = 16 ∨ x.kind = 20 ∨ x.kind = 24 ∨ x.text.toList.isEmpty = true
  props : x.kind = 12 ∨ x.pn = 0
  parts : x.kind = 20 ∨ x.qn = 0
  kids : 10 ≤ x.kind ∧ x.kind ≤ 20 ∧ x.kind ≠ 12 ∨ x.kind = 23 ∨ x.kind = 24 ∨ x.kn = 0
  flags : 0 ≤ x.flags ∧ bits .andNot .i64 x.flags (flagsOf x.kind) = 0
/-- what meanValid tells -/
def C2 : Cnd := ⟨fun x => Short x ∧ Kc x ∧ Kz x, fun k f kn vn => kn ≤ 1 ∧ vn = 1 ∧ (k = 5 ∧ f = 0 ∧ kn = 0 ∨ k = 0 ∧ kn = 1 ∧ bits .andNot .i64 f 9 = 0), fun v s => v = 1 ∧ s ≤ 1000⟩
/-! ### the argument, opened -/
section
variable {H : Type} {enc : TypeId × Value → H} {W : World} {base : Nat} {spare : Nat → Bool} {held : Bool}
theorem open_fields {t sz fuel : Nat} {fs : Array Field} {cs : List Value} {x : DataW H × List MemPlace} (ht : Tryz.prog.underlying t = some (.struct fs)) (hsz : Tryz.prog.cellsOf t = sz) (h : DataW.trod enc Tryz.prog W base spare held fuel t cs = some x) :
    ∃ n, n + 1 = fuel ∧ cs.length = sz ∧ ∀ (i : Nat) (f : Field), fs[i]? = some f → ∃ y, DataW.trod enc Tryz.prog W base spare held n f.type ((cs.drop f.offset).take (Tryz.prog.cellsOf f.type)) = some y ∧ (Wb Tryz.prog t x.1 → Wb Tryz.prog f.type y.1) := by
  obtain ⟨ys, n, hn, rfl, hlen, hyl, hf⟩ := DataW.trod_struct ht h
  refine ⟨n, hn.symm, hlen.trans hsz, fun i f hi => ?_⟩
  have hil : i < ys.length := by
    rw [hyl]
    exact (Array.getElem?_eq_some_iff.1 hi).1
  refine ⟨ys[i], (hf i f hi).trans (List.getElem?_eq_getElem hil), fun hw k hk => hw k ?_⟩
  unfold DataW.weights
  simp only [ht]
  refine DataW.weights_mem_each (j := i) (t := f.type) (d := ys[i].1) ?_ ?_ k hk
  · rw [List.getElem?_map, Array.getElem?_toList, hi]
    rfl
  · rw [List.getElem?_map, List.getElem?_eq_getElem hil]
    rfl
theorem open_cell_int {n : Nat} {c : Value} {y : DataW H × List MemPlace} (h : DataW.trod enc Tryz.prog W base spare held n 3 [c] = some y) : ∃ k : Int, c = .int .i64 k ∧ (-9223372036854775808 ≤ k ∧ k ≤ 9223372036854775807) := by
  obtain ⟨k, e, _, w⟩ := DataW.trod_int Tryz.underlying3 h
  simp only [List.cons.injEq, and_true] at e
  simp only [Lit.wf, Bool.and_eq_true, decide_eq_true_eq] at w
  have h1 : IntKind.i64.min = -9223372036854775808 := by decide
  have h2 : IntKind.i64.max = 9223372036854775807 := by decide
  exact ⟨k, e, by omega, by omega⟩
theorem open_cell_text {n : Nat} {c : Value} {y : DataW H × List MemPlace} (h : DataW.trod enc Tryz.prog W base spare held n 9 [c] = some y) : ∃ s : ByteArray, c = .string s := by
  obtain ⟨k, e, _, _⟩ := DataW.trod_string Tryz.underlying9 h
  simp only [List.cons.injEq, and_true] at e
  exact ⟨k, e⟩
set_option maxRecDepth 100000 in
theorem open_cell_float {n : Nat} {c : Value} {y : DataW H × List MemPlace} (h : DataW.trod enc Tryz.prog W base spare held n 22 [c] = some y) : ∃ b : Nat, c = .float .f64 b := by
  cases n with
  | zero => simp [DataW.trod] at h
  | succ n =>
    unfold DataW.trod at h
    rw [Tryz.underlying22] at h
    split at h <;> simp_all
theorem open_slice_any {t e n b : Nat} {c : Value} {y : DataW H × List MemPlace} (ht : Tryz.prog.underlying t = some (.slice e)) (hb : Tryz.prog.bytesOf e = b) (hb0 : 0 < b) (h : DataW.trod enc Tryz.prog W base spare held n t [c] = some y) (hw : Wb Tryz.prog t y.1) : ∃ A len cap, c = .slice A len cap ∧ len ≤ 1125899906842624 := by
  rcases DataW.trod_slice ht h with ⟨e, _⟩ | ⟨a, len, cap, elems, rest, _, _, e, rfl, _, hl, hm, hlen, _⟩
  · simp only [List.cons.injEq, and_true] at e
    exact ⟨_, _, _, e, Nat.zero_le _⟩
  · simp only [List.cons.injEq, and_true] at e
    refine ⟨_, _, _, e, ?_⟩
    have hk := hw ((elems.length + rest.length) * b) (by
      unfold DataW.weights
      simp only [ht, List.length_map, hb]
      exact List.mem_cons_self)
    have h1 : elems.length + rest.length ≤ (elems.length + rest.length) * b := Nat.le_mul_of_pos_right _ hb0
    unfold reachBytes at hk
    omega
theorem open_units {n : Nat} {c : Value} {y : DataW H × List MemPlace} (h : DataW.trod enc Tryz.prog W base spare held n 23 [c] = some y) : ∃ A len cap, c = .slice A len cap ∧ rows W W.heap.size 1 A len cap unit := by
  obtain ⟨A, len, cap, e, hr⟩ := open_rows (sz := 1) Tryz.underlying23 (by kernel_rfl) (by decide) h
  simp only [List.cons.injEq, and_true] at e
  refine ⟨A, len, cap, e, hr.imp (Nat.le_refl _) (fun _ _ _ _ h => h) ?_⟩
  rintro cs ⟨n', y, _, h, _⟩
  obtain ⟨k, e, _, w⟩ := DataW.trod_int Tryz.underlying81 h
  simp only [Lit.wf, Bool.and_eq_true, decide_eq_true_eq] at w
  have h1 : IntKind.u16.min = 0 := by decide
  have h2 : IntKind.u16.max = 65535 := by decide
  exact ⟨k, e, by omega, by omega⟩
theorem open_exprs {n m : Nat} {c : Value} {y : DataW H × List MemPlace} (ih : ∀ k, k < m → ∀ cs x, DataW.trod enc Tryz.prog W base spare held k 30 cs = some x → Wb Tryz.prog 30 x.1 → Ex C0 W.heap.size W k cs) (hm : n ≤ m) (h : DataW.trod enc Tryz.prog W base spare held n 24 [c] = some y) (hw : Wb Tryz.prog 24 y.1) :
    ∃ A len cap, c = .slice A len cap ∧ rows W W.heap.size 13 A len cap (Ex C0 W.heap.size W m) := by
  obtain ⟨A, len, cap, e, hr⟩ := open_rows (sz := 13) Tryz.underlying24 (by kernel_rfl) (by decide) h
  simp only [List.cons.injEq, and_true] at e
  refine ⟨A, len, cap, e, hr.imp (Nat.le_refl _) (fun _ _ _ _ h => h) ?_⟩
  rintro cs ⟨n', y, hn, h, hwy⟩
  exact Ex.imp (Nat.le_refl _) (fun _ _ _ _ h => h) (fun _ h => h) (fun _ _ _ _ h => h) (fun _ _ h => h) n' m cs (by omega) (ih n' (by omega) cs y h (hwy hw))
set_option maxRecDepth 100000 in
theorem open_expr : ∀ (fuel : Nat) (cs : List Value) (x : DataW H × List MemPlace), DataW.trod enc Tryz.prog W base spare held fuel 30 cs = some x → Wb Tryz.prog 30 x.1 → Ex C0 W.heap.size W fuel cs := by
  intro fuel
  induction fuel using Nat.strongRecOn with
  | _ fuel ih =>
  intro cs x h hw
  obtain ⟨n, rfl, hlen, hf⟩ := open_fields Tryz.underlying30 (by kernel_rfl : Tryz.prog.cellsOf 30 = 13) h
  have ih := fun k (hk : k < n) => ih k (by omega)
  match cs, hlen with
  | [c0, c1, c2, c3, c4, c5, c6, c7, c8, c9, c10, c11, c12], _ =>
    obtain ⟨y0, g0, w0⟩ := hf 0 _ rfl
    change DataW.trod enc Tryz.prog W base spare held _ 3 (List.take (Tryz.prog.cellsOf 3) (List.drop 0 [c0, c1, c2, c3, c4, c5, c6, c7, c8, c9, c10, c11, c12])) = some y0 at g0
    rw [show Tryz.prog.cellsOf 3 = 1 by kernel_rfl] at g0
    change DataW.trod enc Tryz.prog W base spare held _ 3 [c0] = some y0 at g0
    obtain ⟨y1, g1, w1⟩ := hf 1 _ rfl
    change DataW.trod enc Tryz.prog W base spare held _ 3 (List.take (Tryz.prog.cellsOf 3) (List.drop 1 [c0, c1, c2, c3, c4, c5, c6, c7, c8, c9, c10, c11, c12])) = some y1 at g1
    rw [show Tryz.prog.cellsOf 3 = 1 by kernel_rfl] at g1
    change DataW.trod enc Tryz.prog W base spare held _ 3 [c1] = some y1 at g1
    obtain ⟨y2, g2, w2⟩ := hf 2 _ rfl
    change DataW.trod enc Tryz.prog W base spare held _ 3 (List.take (Tryz.prog.cellsOf 3) (List.drop 2 [c0, c1, c2, c3, c4, c5, c6, c7, c8, c9, c10, c11, c12])) = some y2 at g2
    rw [show Tryz.prog.cellsOf 3 = 1 by kernel_rfl] at g2
    change DataW.trod enc Tryz.prog W base spare held _ 3 [c2] = some y2 at g2
    obtain ⟨y3, g3, w3⟩ := hf 3 _ rfl
    change DataW.trod enc Tryz.prog W base spare held _ 3 (List.take (Tryz.prog.cellsOf 3) (List.drop 3 [c0, c1, c2, c3, c4, c5, c6, c7, c8, c9, c10, c11, c12])) = some y3 at g3
    rw [show Tryz.prog.cellsOf 3 = 1 by kernel_rfl] at g3
    change DataW.trod enc Tryz.prog W base spare held _ 3 [c3] = some y3 at g3
    obtain ⟨y4, g4, w4⟩ := hf 4 _ rfl
    change DataW.trod enc Tryz.prog W base spare held _ 3 (List.take (Tryz.prog.cellsOf 3) (List.drop 4 [c0, c1, c2, c3, c4, c5, c6, c7, c8, c9, c10, c11, c12])) = some y4 at g4
    rw [show Tryz.prog.cellsOf 3 = 1 by kernel_rfl] at g4
    change DataW.trod enc Tryz.prog W base spare held _ 3 [c4] = some y4 at g4
    obtain ⟨y5, g5, w5⟩ := hf 5 _ rfl
    change DataW.trod enc Tryz.prog W base spare held _ 22 (List.take (Tryz.prog.cellsOf 22) (List.drop 5 [c0, c1, c2, c3, c4, c5, c6, c7, c8, c9, c10, c11, c12])) = some y5 at g5
    rw [show Tryz.prog.cellsOf 22 = 1 by kernel_rfl] at g5
    change DataW.trod enc Tryz.prog W base spare held _ 22 [c5] = some y5 at g5
    obtain ⟨y6, g6, w6⟩ := hf 6 _ rfl
    change DataW.trod enc Tryz.prog W base spare held _ 23 (List.take (Tryz.prog.cellsOf 23) (List.drop 6 [c0, c1, c2, c3, c4, c5, c6, c7, c8, c9, c10, c11, c12])) = some y6 at g6
    rw [show Tryz.prog.cellsOf 23 = 1 by kernel_rfl] at g6
    change DataW.trod enc Tryz.prog W base spare held _ 23 [c6] = some y6 at g6
    obtain ⟨y7, g7, w7⟩ := hf 7 _ rfl
    change DataW.trod enc Tryz.prog W base spare held _ 9 (List.take (Tryz.prog.cellsOf 9) (List.drop 7 [c0, c1, c2, c3, c4, c5, c6, c7, c8, c9, c10, c11, c12])) = some y7 at g7
    rw [show Tryz.prog.cellsOf 9 = 1 by kernel_rfl] at g7
    change DataW.trod enc Tryz.prog W base spare held _ 9 [c7] = some y7 at g7
    obtain ⟨y8, g8, w8⟩ := hf 8 _ rfl
    change DataW.trod enc Tryz.prog W base spare held _ 24 (List.take (Tryz.prog.cellsOf 24) (List.drop 8 [c0, c1, c2, c3, c4, c5, c6, c7, c8, c9, c10, c11, c12])) = some y8 at g8
    rw [show Tryz.prog.cellsOf 24 = 1 by kernel_rfl] at g8
    change DataW.trod enc Tryz.prog W base spare held _ 24 [c8] = some y8 at g8
    obtain ⟨y9, g9, w9⟩ := hf 9 _ rfl
    change DataW.trod enc Tryz.prog W base spare held _ 25 (List.take (Tryz.prog.cellsOf 25) (List.drop 9 [c0, c1, c2, c3, c4, c5, c6, c7, c8, c9, c10, c11, c12])) = some y9 at g9
    rw [show Tryz.prog.cellsOf 25 = 1 by kernel_rfl] at g9
    change DataW.trod enc Tryz.prog W base spare held _ 25 [c9] = some y9 at g9
    obtain ⟨y10, g10, w10⟩ := hf 10 _ rfl
    change DataW.trod enc Tryz.prog W base spare held _ 26 (List.take (Tryz.prog.cellsOf 26) (List.drop 10 [c0, c1, c2, c3, c4, c5, c6, c7, c8, c9, c10, c11, c12])) = some y10 at g10
    rw [show Tryz.prog.cellsOf 26 = 1 by kernel_rfl] at g10
    change DataW.trod enc Tryz.prog W base spare held _ 26 [c10] = some y10 at g10
    obtain ⟨y11, g11, w11⟩ := hf 11 _ rfl
    change DataW.trod enc Tryz.prog W base spare held _ 27 (List.take (Tryz.prog.cellsOf 27) (List.drop 11 [c0, c1, c2, c3, c4, c5, c6, c7, c8, c9, c10, c11, c12])) = some y11 at g11
    rw [show Tryz.prog.cellsOf 27 = 1 by kernel_rfl] at g11
    change DataW.trod enc Tryz.prog W base spare held _ 27 [c11] = some y11 at g11
    obtain ⟨y12, g12, w12⟩ := hf 12 _ rfl
    change DataW.trod enc Tryz.prog W base spare held _ 28 (List.take (Tryz.prog.cellsOf 28) (List.drop 12 [c0, c1, c2, c3, c4, c5, c6, c7, c8, c9, c10, c11, c12])) = some y12 at g12
    rw [show Tryz.prog.cellsOf 28 = 1 by kernel_rfl] at g12
    change DataW.trod enc Tryz.prog W base spare held _ 28 [c12] = some y12 at g12
    obtain ⟨v0, rfl, _⟩ := open_cell_int g0
    obtain ⟨v1, rfl, r1⟩ := open_cell_int g1
    obtain ⟨v2, rfl, r2⟩ := open_cell_int g2
    obtain ⟨v3, rfl, r3⟩ := open_cell_int g3
    obtain ⟨v4, rfl, r4⟩ := open_cell_int g4
    obtain ⟨v5, rfl⟩ := open_cell_float g5
    obtain ⟨sa, sn, sc, rfl, hs⟩ := open_units g6
    obtain ⟨v7, rfl⟩ := open_cell_text g7
    obtain ⟨ka, kn, kc, rfl, hk⟩ := open_exprs ih (Nat.le_refl _) g8 (w8 hw)
    obtain ⟨pa, pn, pc, e9, hp⟩ := open_rows Tryz.underlying25 (by kernel_rfl : Tryz.prog.cellsOf 53 = 4) (by decide) g9
    obtain ⟨qa, qn, qc, e10, hq⟩ := open_rows Tryz.underlying26 (by kernel_rfl : Tryz.prog.cellsOf 55 = 3) (by decide) g10
    obtain ⟨fa, fn, fc, rfl, hfn⟩ := open_slice_any Tryz.underlying27 rfl (by decide +kernel) g11 (w11 hw)
    obtain ⟨ca, cn, cc, rfl, hcn⟩ := open_slice_any Tryz.underlying28 rfl (by decide +kernel) g12 (w12 hw)
    simp only [List.cons.injEq, and_true] at e9 e10
    subst e9 e10
    refine ⟨⟨v0, v1, v2, v3, v4, v5, sa, sn, sc, v7, ka, kn, kc, pa, pn, pc, qa, qn, qc, fa, fn, fc, ca, cn, cc⟩, rfl, ⟨hfn, hcn, r1, r2, r3, r4⟩, hs, hk, hp.imp (Nat.le_refl _) (fun _ _ _ _ h => h) ?_, hq.imp (Nat.le_refl _) (fun _ _ _ _ h => h) ?_⟩
    · rintro cs ⟨n', y, hn, h, hwy⟩
      have hw := hwy (w9 hw)
      obtain ⟨m, rfl, hlen, hf⟩ := open_fields Tryz.underlying53 (by kernel_rfl : Tryz.prog.cellsOf 53 = 4) h
      match cs, hlen with
      | [c0, c1, c2, c3], _ =>
        obtain ⟨y0, g0, w0⟩ := hf 0 _ rfl
        change DataW.trod enc Tryz.prog W base spare held _ 3 (List.take (Tryz.prog.cellsOf 3) (List.drop 0 [c0, c1, c2, c3])) = some y0 at g0
        rw [show Tryz.prog.cellsOf 3 = 1 by kernel_rfl] at g0
        change DataW.trod enc Tryz.prog W base spare held _ 3 [c0] = some y0 at g0
        obtain ⟨y1, g1, w1⟩ := hf 1 _ rfl
        change DataW.trod enc Tryz.prog W base spare held _ 3 (List.take (Tryz.prog.cellsOf 3) (List.drop 1 [c0, c1, c2, c3])) = some y1 at g1
        rw [show Tryz.prog.cellsOf 3 = 1 by kernel_rfl] at g1
        change DataW.trod enc Tryz.prog W base spare held _ 3 [c1] = some y1 at g1
        obtain ⟨y2, g2, w2⟩ := hf 2 _ rfl
        change DataW.trod enc Tryz.prog W base spare held _ 24 (List.take (Tryz.prog.cellsOf 24) (List.drop 2 [c0, c1, c2, c3])) = some y2 at g2
        rw [show Tryz.prog.cellsOf 24 = 1 by kernel_rfl] at g2
        change DataW.trod enc Tryz.prog W base spare held _ 24 [c2] = some y2 at g2
        obtain ⟨y3, g3, w3⟩ := hf 3 _ rfl
        change DataW.trod enc Tryz.prog W base spare held _ 24 (List.take (Tryz.prog.cellsOf 24) (List.drop 3 [c0, c1, c2, c3])) = some y3 at g3
        rw [show Tryz.prog.cellsOf 24 = 1 by kernel_rfl] at g3
        change DataW.trod enc Tryz.prog W base spare held _ 24 [c3] = some y3 at g3
        obtain ⟨v0, rfl, _⟩ := open_cell_int g0
        obtain ⟨v1, rfl, _⟩ := open_cell_int g1
        obtain ⟨ka, kn, kc, rfl, hk⟩ := open_exprs ih (by omega) g2 (w2 hw)
        obtain ⟨va, vn, vc, rfl, hv⟩ := open_exprs ih (by omega) g3 (w3 hw)
        exact ⟨v0, v1, ka, kn, kc, va, vn, vc, rfl, trivial, hk, hv⟩
    · rintro cs ⟨n', y, hn, h, hwy⟩
      have hw := hwy (w10 hw)
      obtain ⟨m, rfl, hlen, hf⟩ := open_fields Tryz.underlying55 (by kernel_rfl : Tryz.prog.cellsOf 55 = 3) h
      match cs, hlen with
      | [c0, c1, c2], _ =>
        obtain ⟨y0, g0, w0⟩ := hf 0 _ rfl
        change DataW.trod enc Tryz.prog W base spare held _ 24 (List.take (Tryz.prog.cellsOf 24) (List.drop 0 [c0, c1, c2])) = some y0 at g0
        rw [show Tryz.prog.cellsOf 24 = 1 by kernel_rfl] at g0
        change DataW.trod enc Tryz.prog W base spare held _ 24 [c0] = some y0 at g0
        obtain ⟨y1, g1, w1⟩ := hf 1 _ rfl
        change DataW.trod enc Tryz.prog W base spare held _ 23 (List.take (Tryz.prog.cellsOf 23) (List.drop 1 [c0, c1, c2])) = some y1 at g1
        rw [show Tryz.prog.cellsOf 23 = 1 by kernel_rfl] at g1
        change DataW.trod enc Tryz.prog W base spare held _ 23 [c1] = some y1 at g1
        obtain ⟨y2, g2, w2⟩ := hf 2 _ rfl
        change DataW.trod enc Tryz.prog W base spare held _ 9 (List.take (Tryz.prog.cellsOf 9) (List.drop 2 [c0, c1, c2])) = some y2 at g2
        rw [show Tryz.prog.cellsOf 9 = 1 by kernel_rfl] at g2
        change DataW.trod enc Tryz.prog W base spare held _ 9 [c2] = some y2 at g2
        obtain ⟨va, vn, vc, rfl, hv⟩ := open_exprs ih (by omega) g0 (w0 hw)
        obtain ⟨sa, sn, sc, rfl, hs⟩ := open_units g1
        obtain ⟨t, rfl⟩ := open_cell_text g2
        exact ⟨va, vn, vc, sa, sn, sc, t, rfl, trivial, hv, hs⟩
end
end Go.Proofs.YtacokmkbikdmmaaGreatDoor.trees
