/-
  FnAdvance: the walks of utf8.DecodeRune and decodeRuneSlow over the bytes of a well-formed text: they tell what the model's own decoding tells.
  Conditions: the two tables of package utf8 as the program lays them; a code point that is whole.
-/
import Derived.Test.YtbgghgibkjoopaaDoorFnAdvanceStr
namespace Go.Proofs.YtbgghgibkjoopaaDoor.fnAdvance
open Go.RowKit Go.Proofs.YtbgghgibkjoopaaDoorW.PrintWords Go.Proofs.YtbgghgibkjoopaaDoor.PFnAdvance Go.Proofs.YtbgghgibkjoopaaDoor.runes
set_option linter.unusedVariables false
set_option linter.unusedSimpArgs false

/-- what the table tells of a first byte from C2 to F4 -/
def firstOf (b : Nat) : Int := if b ≤ 223 then 2 else if b = 224 then 19 else if b = 237 then 35 else if b ≤ 239 then 3 else if b = 240 then 52 else if b = 244 then 68 else 4
/-- the two tables lie where the program has them -/
def Tables (W : World) : Prop := 2 ≤ W.heap.size ∧ (∀ b, 194 ≤ b → b ≤ 244 → W.cell? ⟨0, b, none⟩ = some (.int .u8 (firstOf b))) ∧
  (W.cell? ⟨1, 0, none⟩ = some (.int .u8 128) ∧ W.cell? ⟨1, 1, none⟩ = some (.int .u8 191) ∧ W.cell? ⟨1, 2, none⟩ = some (.int .u8 160) ∧ W.cell? ⟨1, 3, none⟩ = some (.int .u8 191) ∧ W.cell? ⟨1, 4, none⟩ = some (.int .u8 128) ∧ W.cell? ⟨1, 5, none⟩ = some (.int .u8 159) ∧ W.cell? ⟨1, 6, none⟩ = some (.int .u8 144) ∧ W.cell? ⟨1, 7, none⟩ = some (.int .u8 191) ∧ W.cell? ⟨1, 8, none⟩ = some (.int .u8 128) ∧ W.cell? ⟨1, 9, none⟩ = some (.int .u8 143))

theorem wraps_u8 (n : Int) (h₀ : 0 ≤ n) (h₁ : n < 2 ^ 8) : IntKind.u8.wrap n = n := by rw [IntKind.wrap_u8]; omega
theorem u8and63 (b : Int) (h0 : 0 ≤ b) (h1 : b < 256) : Go.bits .and .u8 b 63 = b % 64 := bits_mask .u8 8 (by decide) wraps_u8 6 (by decide) b h0 (by omega)
theorem u8and31 (b : Int) (h0 : 0 ≤ b) (h1 : b < 256) : Go.bits .and .u8 b 31 = b % 32 := bits_mask .u8 8 (by decide) wraps_u8 5 (by decide) b h0 (by omega)
theorem u8and15 (b : Int) (h0 : 0 ≤ b) (h1 : b < 256) : Go.bits .and .u8 b 15 = b % 16 := bits_mask .u8 8 (by decide) wraps_u8 4 (by decide) b h0 (by omega)
theorem u8and7 (b : Int) (h0 : 0 ≤ b) (h1 : b < 256) : Go.bits .and .u8 b 7 = b % 8 := bits_mask .u8 8 (by decide) wraps_u8 3 (by decide) b h0 (by omega)
theorem alloc_cell {w : World} {g j : Nat} {v : Value} (h : w.cell? ⟨g, j, none⟩ = some v) (hg : g < w.heap.size) (o : Obj) : (w.alloc o).cell? ⟨g, j, none⟩ = some v := by
  rw [← h]
  exact World.cell?_of_block (Below.heap_alloc w o g hg)

set_option maxHeartbeats 16000000 in
set_option maxRecDepth 100000 in
theorem slow2 (g pos m cap b0 b1 : Nat) (w : World) (ht : Tables w) (hg : g < w.heap.size) (hm : 2 ≤ m) (hm2 : m ≤ 65536) (h0 : w.cell? ⟨g, pos, none⟩ = some (.int .u8 b0)) (h1 : w.cell? ⟨g, pos + 1, none⟩ = some (.int .u8 b1)) (hx : firstOf b0 = 2) (a0 : 194 ≤ b0) (a1 : b0 ≤ 244) (c1 : 128 ≤ b1) (d1 : b1 ≤ 191)  :
    Calls Tryd.prog 12 #[.slice (some ⟨g, pos, none⟩) m cap] w fun e w' => e = .returned (.tuple #[.int .i32 ((b0 % 32 * 64 + b1 % 64 : Nat) : Int), .int .i64 2]) ∧ Below w.heap.size w w' := by
  obtain ⟨_, hT, t0, t1, t2, t3, t4, t5, t6, t7, t8, t9⟩ := ht
  have hx := (hT b0 a0 a1).trans (by rw [hx])
  clear hT
  have m1 : (2 : Int) ≤ m := by omega
  have m2 : (m : Int) ≤ 65536 := by omega
  have z0 : (194 : Int) ≤ b0 := by omega
  have z1 : (b0 : Int) ≤ 244 := by omega
  have y1 : (128 : Int) ≤ b1 := by omega
  have x1 : (b1 : Int) ≤ 191 := by omega
  have r1 := fun o => alloc_cell h1 hg o
  have e1 : bits BinOp.and IntKind.u8 (b1 : Int) 63 = (b1 : Int) % 64 := u8and63 _ (by omega) (by omega)
  have e0 : bits BinOp.and IntKind.u8 (b0 : Int) 31 = (b0 : Int) % 32 := u8and31 _ (by omega) (by omega)
  have kk : bits BinOp.and IntKind.u8 2 7 = 2 := by decide
  have f1 : bits BinOp.or IntKind.i32 ((b0 : Int) % 32 * 64) ((b1 : Int) % 64) = (b0 : Int) % 32 * 64 + (b1 : Int) % 64 := i32_or6 _ _ (by omega) (by omega) (by omega) (by omega) (by omega)
  go_enter Tryd.func12, Tryd.ntmps12
  go_wp2_with (fail)
  go_ret2
  exact ⟨rfl, (Below.refl _ _).alloc (Nat.le_refl _) _⟩
set_option maxHeartbeats 16000000 in
set_option maxRecDepth 100000 in
theorem slow3a (g pos m cap b0 b1 b2 : Nat) (w : World) (ht : Tables w) (hg : g < w.heap.size) (hm : 3 ≤ m) (hm2 : m ≤ 65536) (h0 : w.cell? ⟨g, pos, none⟩ = some (.int .u8 b0)) (h1 : w.cell? ⟨g, pos + 1, none⟩ = some (.int .u8 b1)) (h2 : w.cell? ⟨g, pos + 2, none⟩ = some (.int .u8 b2)) (hx : firstOf b0 = 19) (a0 : 194 ≤ b0) (a1 : b0 ≤ 244) (c1 : 160 ≤ b1) (d1 : b1 ≤ 191) (c2 : 128 ≤ b2) (d2 : b2 ≤ 191) :
    Calls Tryd.prog 12 #[.slice (some ⟨g, pos, none⟩) m cap] w fun e w' => e = .returned (.tuple #[.int .i32 ((b0 % 16 * 4096 + b1 % 64 * 64 + b2 % 64 : Nat) : Int), .int .i64 3]) ∧ Below w.heap.size w w' := by
  obtain ⟨_, hT, t0, t1, t2, t3, t4, t5, t6, t7, t8, t9⟩ := ht
  have hx := (hT b0 a0 a1).trans (by rw [hx])
  clear hT
  have m1 : (3 : Int) ≤ m := by omega
  have m2 : (m : Int) ≤ 65536 := by omega
  have z0 : (194 : Int) ≤ b0 := by omega
  have z1 : (b0 : Int) ≤ 244 := by omega
  have y1 : (160 : Int) ≤ b1 := by omega
  have x1 : (b1 : Int) ≤ 191 := by omega
  have r1 := fun o => alloc_cell h1 hg o
  have e1 : bits BinOp.and IntKind.u8 (b1 : Int) 63 = (b1 : Int) % 64 := u8and63 _ (by omega) (by omega)
  have y2 : (128 : Int) ≤ b2 := by omega
  have x2 : (b2 : Int) ≤ 191 := by omega
  have r2 := fun o => alloc_cell h2 hg o
  have e2 : bits BinOp.and IntKind.u8 (b2 : Int) 63 = (b2 : Int) % 64 := u8and63 _ (by omega) (by omega)
  have e0 : bits BinOp.and IntKind.u8 (b0 : Int) 15 = (b0 : Int) % 16 := u8and15 _ (by omega) (by omega)
  have kk : bits BinOp.and IntKind.u8 19 7 = 3 := by decide
  have f1 : bits BinOp.or IntKind.i32 ((b0 : Int) % 16 * 4096) ((b1 : Int) % 64 * 64) = (b0 : Int) % 16 * 4096 + (b1 : Int) % 64 * 64 := i32_or12 _ _ (by omega) (by omega) (by omega) (by omega) (by omega)
  have f2 : bits BinOp.or IntKind.i32 ((b0 : Int) % 16 * 4096 + (b1 : Int) % 64 * 64) ((b2 : Int) % 64) = (b0 : Int) % 16 * 4096 + (b1 : Int) % 64 * 64 + (b2 : Int) % 64 := i32_or6 _ _ (by omega) (by omega) (by omega) (by omega) (by omega)
  go_enter Tryd.func12, Tryd.ntmps12
  go_wp2_with (fail)
  go_ret2
  exact ⟨rfl, (Below.refl _ _).alloc (Nat.le_refl _) _⟩
set_option maxHeartbeats 16000000 in
set_option maxRecDepth 100000 in
theorem slow3b (g pos m cap b0 b1 b2 : Nat) (w : World) (ht : Tables w) (hg : g < w.heap.size) (hm : 3 ≤ m) (hm2 : m ≤ 65536) (h0 : w.cell? ⟨g, pos, none⟩ = some (.int .u8 b0)) (h1 : w.cell? ⟨g, pos + 1, none⟩ = some (.int .u8 b1)) (h2 : w.cell? ⟨g, pos + 2, none⟩ = some (.int .u8 b2)) (hx : firstOf b0 = 35) (a0 : 194 ≤ b0) (a1 : b0 ≤ 244) (c1 : 128 ≤ b1) (d1 : b1 ≤ 159) (c2 : 128 ≤ b2) (d2 : b2 ≤ 191) :
    Calls Tryd.prog 12 #[.slice (some ⟨g, pos, none⟩) m cap] w fun e w' => e = .returned (.tuple #[.int .i32 ((b0 % 16 * 4096 + b1 % 64 * 64 + b2 % 64 : Nat) : Int), .int .i64 3]) ∧ Below w.heap.size w w' := by
  obtain ⟨_, hT, t0, t1, t2, t3, t4, t5, t6, t7, t8, t9⟩ := ht
  have hx := (hT b0 a0 a1).trans (by rw [hx])
  clear hT
  have m1 : (3 : Int) ≤ m := by omega
  have m2 : (m : Int) ≤ 65536 := by omega
  have z0 : (194 : Int) ≤ b0 := by omega
  have z1 : (b0 : Int) ≤ 244 := by omega
  have y1 : (128 : Int) ≤ b1 := by omega
  have x1 : (b1 : Int) ≤ 159 := by omega
  have r1 := fun o => alloc_cell h1 hg o
  have e1 : bits BinOp.and IntKind.u8 (b1 : Int) 63 = (b1 : Int) % 64 := u8and63 _ (by omega) (by omega)
  have y2 : (128 : Int) ≤ b2 := by omega
  have x2 : (b2 : Int) ≤ 191 := by omega
  have r2 := fun o => alloc_cell h2 hg o
  have e2 : bits BinOp.and IntKind.u8 (b2 : Int) 63 = (b2 : Int) % 64 := u8and63 _ (by omega) (by omega)
  have e0 : bits BinOp.and IntKind.u8 (b0 : Int) 15 = (b0 : Int) % 16 := u8and15 _ (by omega) (by omega)
  have kk : bits BinOp.and IntKind.u8 35 7 = 3 := by decide
  have f1 : bits BinOp.or IntKind.i32 ((b0 : Int) % 16 * 4096) ((b1 : Int) % 64 * 64) = (b0 : Int) % 16 * 4096 + (b1 : Int) % 64 * 64 := i32_or12 _ _ (by omega) (by omega) (by omega) (by omega) (by omega)
  have f2 : bits BinOp.or IntKind.i32 ((b0 : Int) % 16 * 4096 + (b1 : Int) % 64 * 64) ((b2 : Int) % 64) = (b0 : Int) % 16 * 4096 + (b1 : Int) % 64 * 64 + (b2 : Int) % 64 := i32_or6 _ _ (by omega) (by omega) (by omega) (by omega) (by omega)
  go_enter Tryd.func12, Tryd.ntmps12
  go_wp2_with (fail)
  go_ret2
  exact ⟨rfl, (Below.refl _ _).alloc (Nat.le_refl _) _⟩
set_option maxHeartbeats 16000000 in
set_option maxRecDepth 100000 in
theorem slow3c (g pos m cap b0 b1 b2 : Nat) (w : World) (ht : Tables w) (hg : g < w.heap.size) (hm : 3 ≤ m) (hm2 : m ≤ 65536) (h0 : w.cell? ⟨g, pos, none⟩ = some (.int .u8 b0)) (h1 : w.cell? ⟨g, pos + 1, none⟩ = some (.int .u8 b1)) (h2 : w.cell? ⟨g, pos + 2, none⟩ = some (.int .u8 b2)) (hx : firstOf b0 = 3) (a0 : 194 ≤ b0) (a1 : b0 ≤ 244) (c1 : 128 ≤ b1) (d1 : b1 ≤ 191) (c2 : 128 ≤ b2) (d2 : b2 ≤ 191) :
    Calls Tryd.prog 12 #[.slice (some ⟨g, pos, none⟩) m cap] w fun e w' => e = .returned (.tuple #[.int .i32 ((b0 % 16 * 4096 + b1 % 64 * 64 + b2 % 64 : Nat) : Int), .int .i64 3]) ∧ Below w.heap.size w w' := by
  obtain ⟨_, hT, t0, t1, t2, t3, t4, t5, t6, t7, t8, t9⟩ := ht
  have hx := (hT b0 a0 a1).trans (by rw [hx])
  clear hT
  have m1 : (3 : Int) ≤ m := by omega
  have m2 : (m : Int) ≤ 65536 := by omega
  have z0 : (194 : Int) ≤ b0 := by omega
  have z1 : (b0 : Int) ≤ 244 := by omega
  have y1 : (128 : Int) ≤ b1 := by omega
  have x1 : (b1 : Int) ≤ 191 := by omega
  have r1 := fun o => alloc_cell h1 hg o
  have e1 : bits BinOp.and IntKind.u8 (b1 : Int) 63 = (b1 : Int) % 64 := u8and63 _ (by omega) (by omega)
  have y2 : (128 : Int) ≤ b2 := by omega
  have x2 : (b2 : Int) ≤ 191 := by omega
  have r2 := fun o => alloc_cell h2 hg o
  have e2 : bits BinOp.and IntKind.u8 (b2 : Int) 63 = (b2 : Int) % 64 := u8and63 _ (by omega) (by omega)
  have e0 : bits BinOp.and IntKind.u8 (b0 : Int) 15 = (b0 : Int) % 16 := u8and15 _ (by omega) (by omega)
  have kk : bits BinOp.and IntKind.u8 3 7 = 3 := by decide
  have f1 : bits BinOp.or IntKind.i32 ((b0 : Int) % 16 * 4096) ((b1 : Int) % 64 * 64) = (b0 : Int) % 16 * 4096 + (b1 : Int) % 64 * 64 := i32_or12 _ _ (by omega) (by omega) (by omega) (by omega) (by omega)
  have f2 : bits BinOp.or IntKind.i32 ((b0 : Int) % 16 * 4096 + (b1 : Int) % 64 * 64) ((b2 : Int) % 64) = (b0 : Int) % 16 * 4096 + (b1 : Int) % 64 * 64 + (b2 : Int) % 64 := i32_or6 _ _ (by omega) (by omega) (by omega) (by omega) (by omega)
  go_enter Tryd.func12, Tryd.ntmps12
  go_wp2_with (fail)
  go_ret2
  exact ⟨rfl, (Below.refl _ _).alloc (Nat.le_refl _) _⟩
set_option maxHeartbeats 16000000 in
set_option maxRecDepth 100000 in
theorem slow4a (g pos m cap b0 b1 b2 b3 : Nat) (w : World) (ht : Tables w) (hg : g < w.heap.size) (hm : 4 ≤ m) (hm2 : m ≤ 65536) (h0 : w.cell? ⟨g, pos, none⟩ = some (.int .u8 b0)) (h1 : w.cell? ⟨g, pos + 1, none⟩ = some (.int .u8 b1)) (h2 : w.cell? ⟨g, pos + 2, none⟩ = some (.int .u8 b2)) (h3 : w.cell? ⟨g, pos + 3, none⟩ = some (.int .u8 b3)) (hx : firstOf b0 = 52) (a0 : 194 ≤ b0) (a1 : b0 ≤ 244) (c1 : 144 ≤ b1) (d1 : b1 ≤ 191) (c2 : 128 ≤ b2) (d2 : b2 ≤ 191) (c3 : 128 ≤ b3) (d3 : b3 ≤ 191) :
    Calls Tryd.prog 12 #[.slice (some ⟨g, pos, none⟩) m cap] w fun e w' => e = .returned (.tuple #[.int .i32 ((b0 % 8 * 262144 + b1 % 64 * 4096 + b2 % 64 * 64 + b3 % 64 : Nat) : Int), .int .i64 4]) ∧ Below w.heap.size w w' := by
  obtain ⟨_, hT, t0, t1, t2, t3, t4, t5, t6, t7, t8, t9⟩ := ht
  have hx := (hT b0 a0 a1).trans (by rw [hx])
  clear hT
  have m1 : (4 : Int) ≤ m := by omega
  have m2 : (m : Int) ≤ 65536 := by omega
  have z0 : (194 : Int) ≤ b0 := by omega
  have z1 : (b0 : Int) ≤ 244 := by omega
  have y1 : (144 : Int) ≤ b1 := by omega
  have x1 : (b1 : Int) ≤ 191 := by omega
  have r1 := fun o => alloc_cell h1 hg o
  have e1 : bits BinOp.and IntKind.u8 (b1 : Int) 63 = (b1 : Int) % 64 := u8and63 _ (by omega) (by omega)
  have y2 : (128 : Int) ≤ b2 := by omega
  have x2 : (b2 : Int) ≤ 191 := by omega
  have r2 := fun o => alloc_cell h2 hg o
  have e2 : bits BinOp.and IntKind.u8 (b2 : Int) 63 = (b2 : Int) % 64 := u8and63 _ (by omega) (by omega)
  have y3 : (128 : Int) ≤ b3 := by omega
  have x3 : (b3 : Int) ≤ 191 := by omega
  have r3 := fun o => alloc_cell h3 hg o
  have e3 : bits BinOp.and IntKind.u8 (b3 : Int) 63 = (b3 : Int) % 64 := u8and63 _ (by omega) (by omega)
  have e0 : bits BinOp.and IntKind.u8 (b0 : Int) 7 = (b0 : Int) % 8 := u8and7 _ (by omega) (by omega)
  have kk : bits BinOp.and IntKind.u8 52 7 = 4 := by decide
  have f1 : bits BinOp.or IntKind.i32 ((b0 : Int) % 8 * 262144) ((b1 : Int) % 64 * 4096) = (b0 : Int) % 8 * 262144 + (b1 : Int) % 64 * 4096 := i32_or18 _ _ (by omega) (by omega) (by omega) (by omega) (by omega)
  have f2 : bits BinOp.or IntKind.i32 ((b0 : Int) % 8 * 262144 + (b1 : Int) % 64 * 4096) ((b2 : Int) % 64 * 64) = (b0 : Int) % 8 * 262144 + (b1 : Int) % 64 * 4096 + (b2 : Int) % 64 * 64 := i32_or12 _ _ (by omega) (by omega) (by omega) (by omega) (by omega)
  have f3 : bits BinOp.or IntKind.i32 ((b0 : Int) % 8 * 262144 + (b1 : Int) % 64 * 4096 + (b2 : Int) % 64 * 64) ((b3 : Int) % 64) = (b0 : Int) % 8 * 262144 + (b1 : Int) % 64 * 4096 + (b2 : Int) % 64 * 64 + (b3 : Int) % 64 := i32_or6 _ _ (by omega) (by omega) (by omega) (by omega) (by omega)
  go_enter Tryd.func12, Tryd.ntmps12
  go_wp2_with (fail)
  go_ret2
  exact ⟨rfl, (Below.refl _ _).alloc (Nat.le_refl _) _⟩
set_option maxHeartbeats 16000000 in
set_option maxRecDepth 100000 in
theorem slow4b (g pos m cap b0 b1 b2 b3 : Nat) (w : World) (ht : Tables w) (hg : g < w.heap.size) (hm : 4 ≤ m) (hm2 : m ≤ 65536) (h0 : w.cell? ⟨g, pos, none⟩ = some (.int .u8 b0)) (h1 : w.cell? ⟨g, pos + 1, none⟩ = some (.int .u8 b1)) (h2 : w.cell? ⟨g, pos + 2, none⟩ = some (.int .u8 b2)) (h3 : w.cell? ⟨g, pos + 3, none⟩ = some (.int .u8 b3)) (hx : firstOf b0 = 68) (a0 : 194 ≤ b0) (a1 : b0 ≤ 244) (c1 : 128 ≤ b1) (d1 : b1 ≤ 143) (c2 : 128 ≤ b2) (d2 : b2 ≤ 191) (c3 : 128 ≤ b3) (d3 : b3 ≤ 191) :
    Calls Tryd.prog 12 #[.slice (some ⟨g, pos, none⟩) m cap] w fun e w' => e = .returned (.tuple #[.int .i32 ((b0 % 8 * 262144 + b1 % 64 * 4096 + b2 % 64 * 64 + b3 % 64 : Nat) : Int), .int .i64 4]) ∧ Below w.heap.size w w' := by
  obtain ⟨_, hT, t0, t1, t2, t3, t4, t5, t6, t7, t8, t9⟩ := ht
  have hx := (hT b0 a0 a1).trans (by rw [hx])
  clear hT
  have m1 : (4 : Int) ≤ m := by omega
  have m2 : (m : Int) ≤ 65536 := by omega
  have z0 : (194 : Int) ≤ b0 := by omega
  have z1 : (b0 : Int) ≤ 244 := by omega
  have y1 : (128 : Int) ≤ b1 := by omega
  have x1 : (b1 : Int) ≤ 143 := by omega
  have r1 := fun o => alloc_cell h1 hg o
  have e1 : bits BinOp.and IntKind.u8 (b1 : Int) 63 = (b1 : Int) % 64 := u8and63 _ (by omega) (by omega)
  have y2 : (128 : Int) ≤ b2 := by omega
  have x2 : (b2 : Int) ≤ 191 := by omega
  have r2 := fun o => alloc_cell h2 hg o
  have e2 : bits BinOp.and IntKind.u8 (b2 : Int) 63 = (b2 : Int) % 64 := u8and63 _ (by omega) (by omega)
  have y3 : (128 : Int) ≤ b3 := by omega
  have x3 : (b3 : Int) ≤ 191 := by omega
  have r3 := fun o => alloc_cell h3 hg o
  have e3 : bits BinOp.and IntKind.u8 (b3 : Int) 63 = (b3 : Int) % 64 := u8and63 _ (by omega) (by omega)
  have e0 : bits BinOp.and IntKind.u8 (b0 : Int) 7 = (b0 : Int) % 8 := u8and7 _ (by omega) (by omega)
  have kk : bits BinOp.and IntKind.u8 68 7 = 4 := by decide
  have f1 : bits BinOp.or IntKind.i32 ((b0 : Int) % 8 * 262144) ((b1 : Int) % 64 * 4096) = (b0 : Int) % 8 * 262144 + (b1 : Int) % 64 * 4096 := i32_or18 _ _ (by omega) (by omega) (by omega) (by omega) (by omega)
  have f2 : bits BinOp.or IntKind.i32 ((b0 : Int) % 8 * 262144 + (b1 : Int) % 64 * 4096) ((b2 : Int) % 64 * 64) = (b0 : Int) % 8 * 262144 + (b1 : Int) % 64 * 4096 + (b2 : Int) % 64 * 64 := i32_or12 _ _ (by omega) (by omega) (by omega) (by omega) (by omega)
  have f3 : bits BinOp.or IntKind.i32 ((b0 : Int) % 8 * 262144 + (b1 : Int) % 64 * 4096 + (b2 : Int) % 64 * 64) ((b3 : Int) % 64) = (b0 : Int) % 8 * 262144 + (b1 : Int) % 64 * 4096 + (b2 : Int) % 64 * 64 + (b3 : Int) % 64 := i32_or6 _ _ (by omega) (by omega) (by omega) (by omega) (by omega)
  go_enter Tryd.func12, Tryd.ntmps12
  go_wp2_with (fail)
  go_ret2
  exact ⟨rfl, (Below.refl _ _).alloc (Nat.le_refl _) _⟩
set_option maxHeartbeats 16000000 in
set_option maxRecDepth 100000 in
theorem slow4c (g pos m cap b0 b1 b2 b3 : Nat) (w : World) (ht : Tables w) (hg : g < w.heap.size) (hm : 4 ≤ m) (hm2 : m ≤ 65536) (h0 : w.cell? ⟨g, pos, none⟩ = some (.int .u8 b0)) (h1 : w.cell? ⟨g, pos + 1, none⟩ = some (.int .u8 b1)) (h2 : w.cell? ⟨g, pos + 2, none⟩ = some (.int .u8 b2)) (h3 : w.cell? ⟨g, pos + 3, none⟩ = some (.int .u8 b3)) (hx : firstOf b0 = 4) (a0 : 194 ≤ b0) (a1 : b0 ≤ 244) (c1 : 128 ≤ b1) (d1 : b1 ≤ 191) (c2 : 128 ≤ b2) (d2 : b2 ≤ 191) (c3 : 128 ≤ b3) (d3 : b3 ≤ 191) :
    Calls Tryd.prog 12 #[.slice (some ⟨g, pos, none⟩) m cap] w fun e w' => e = .returned (.tuple #[.int .i32 ((b0 % 8 * 262144 + b1 % 64 * 4096 + b2 % 64 * 64 + b3 % 64 : Nat) : Int), .int .i64 4]) ∧ Below w.heap.size w w' := by
  obtain ⟨_, hT, t0, t1, t2, t3, t4, t5, t6, t7, t8, t9⟩ := ht
  have hx := (hT b0 a0 a1).trans (by rw [hx])
  clear hT
  have m1 : (4 : Int) ≤ m := by omega
  have m2 : (m : Int) ≤ 65536 := by omega
  have z0 : (194 : Int) ≤ b0 := by omega
  have z1 : (b0 : Int) ≤ 244 := by omega
  have y1 : (128 : Int) ≤ b1 := by omega
  have x1 : (b1 : Int) ≤ 191 := by omega
  have r1 := fun o => alloc_cell h1 hg o
  have e1 : bits BinOp.and IntKind.u8 (b1 : Int) 63 = (b1 : Int) % 64 := u8and63 _ (by omega) (by omega)
  have y2 : (128 : Int) ≤ b2 := by omega
  have x2 : (b2 : Int) ≤ 191 := by omega
  have r2 := fun o => alloc_cell h2 hg o
  have e2 : bits BinOp.and IntKind.u8 (b2 : Int) 63 = (b2 : Int) % 64 := u8and63 _ (by omega) (by omega)
  have y3 : (128 : Int) ≤ b3 := by omega
  have x3 : (b3 : Int) ≤ 191 := by omega
  have r3 := fun o => alloc_cell h3 hg o
  have e3 : bits BinOp.and IntKind.u8 (b3 : Int) 63 = (b3 : Int) % 64 := u8and63 _ (by omega) (by omega)
  have e0 : bits BinOp.and IntKind.u8 (b0 : Int) 7 = (b0 : Int) % 8 := u8and7 _ (by omega) (by omega)
  have kk : bits BinOp.and IntKind.u8 4 7 = 4 := by decide
  have f1 : bits BinOp.or IntKind.i32 ((b0 : Int) % 8 * 262144) ((b1 : Int) % 64 * 4096) = (b0 : Int) % 8 * 262144 + (b1 : Int) % 64 * 4096 := i32_or18 _ _ (by omega) (by omega) (by omega) (by omega) (by omega)
  have f2 : bits BinOp.or IntKind.i32 ((b0 : Int) % 8 * 262144 + (b1 : Int) % 64 * 4096) ((b2 : Int) % 64 * 64) = (b0 : Int) % 8 * 262144 + (b1 : Int) % 64 * 4096 + (b2 : Int) % 64 * 64 := i32_or12 _ _ (by omega) (by omega) (by omega) (by omega) (by omega)
  have f3 : bits BinOp.or IntKind.i32 ((b0 : Int) % 8 * 262144 + (b1 : Int) % 64 * 4096 + (b2 : Int) % 64 * 64) ((b3 : Int) % 64) = (b0 : Int) % 8 * 262144 + (b1 : Int) % 64 * 4096 + (b2 : Int) % 64 * 64 + (b3 : Int) % 64 := i32_or6 _ _ (by omega) (by omega) (by omega) (by omega) (by omega)
  go_enter Tryd.func12, Tryd.ntmps12
  go_wp2_with (fail)
  go_ret2
  exact ⟨rfl, (Below.refl _ _).alloc (Nat.le_refl _) _⟩
theorem good_ne {s : ByteArray} {i r n : Nat} (hd : Utf8.decode s i = (r, n)) (ht : told (Utf8.decode s i) = ((r : Int), (n : Int))) (hn : 1 ≤ n) : ¬ (r = 65533 ∧ n = 1) := by
  rintro ⟨rfl, rfl⟩
  rw [hd] at ht
  have := (Prod.mk.inj ht).2
  simp [told] at ht
theorem slow (s : ByteArray) (g pos m cap r n : Nat) (w : World) (ht : Tables w) (hg : g < w.heap.size) (hs : s.size = pos + m) (hm : m ≤ 65536) (hcell : ∀ i, i < s.size → w.cell? ⟨g, i, none⟩ = some (.int .u8 (nb s i)))
    (hd : Utf8.decode s pos = (r, n)) (htold : told (Utf8.decode s pos) = ((r : Int), (n : Int))) (hn : 1 ≤ n) (hp : pos < s.size) (h128 : 128 ≤ nb s pos) :
    Calls Tryd.prog 12 #[.slice (some ⟨g, pos, none⟩) m cap] w fun e w' => e = .returned (.tuple #[.int .i32 (r : Int), .int .i64 (n : Int)]) ∧ Below w.heap.size w w' := by
  have hne := good_ne hd htold hn
  have hlt := nb_lt s pos
  have b0lt := nb_lt s pos
  by_cases hb : nb s pos < 194 ∨ 245 ≤ nb s pos
  · exfalso
    rw [dec_bad s pos (by omega)] at hd
    have h1 := (Prod.mk.inj hd).1
    have h2 := (Prod.mk.inj hd).2
    omega
  · by_cases h2 : nb s pos ≤ 223
    · rw [dec2 s pos (by omega)] at hd
      split at hd
      · rename_i hc
        obtain ⟨rfl, rfl⟩ := Prod.mk.inj hd
        exact slow2 g pos m cap (nb s pos) (nb s (pos + 1)) w ht hg (by omega) hm (hcell _ hp) (hcell _ hc.1) (by unfold firstOf; rw [if_pos h2]) (by omega) (by omega) (by omega) (by omega)
      · have h1 := (Prod.mk.inj hd).1
        have h2 := (Prod.mk.inj hd).2
        omega
    · by_cases h3 : nb s pos ≤ 239
      · rw [dec3 s pos (by omega)] at hd
        split at hd
        · rename_i hc
          split at hd
          · rename_i hv
            obtain ⟨rfl, rfl⟩ := Prod.mk.inj hd
            have hvv := (valid_iff _).1 hv.2
            have hv1 := hv.1
            by_cases q1 : nb s pos = 224
            · exact slow3a g pos m cap (nb s pos) (nb s (pos + 1)) (nb s (pos + 2)) w ht hg (by omega) hm (hcell _ hp) (hcell _ hc.1.1) (hcell _ hc.2.1) (by unfold firstOf; rw [if_neg h2, if_pos q1]) (by omega) (by omega) (by omega) (by omega) (by omega) (by omega)
            · by_cases q2 : nb s pos = 237
              · exact slow3b g pos m cap (nb s pos) (nb s (pos + 1)) (nb s (pos + 2)) w ht hg (by omega) hm (hcell _ hp) (hcell _ hc.1.1) (hcell _ hc.2.1) (by unfold firstOf; rw [if_neg h2, if_neg q1, if_pos q2]) (by omega) (by omega) (by omega) (by omega) (by omega) (by omega)
              · exact slow3c g pos m cap (nb s pos) (nb s (pos + 1)) (nb s (pos + 2)) w ht hg (by omega) hm (hcell _ hp) (hcell _ hc.1.1) (hcell _ hc.2.1) (by unfold firstOf; rw [if_neg h2, if_neg q1, if_neg q2, if_pos h3]) (by omega) (by omega) (by omega) (by omega) (by omega) (by omega)
          · have h1 := (Prod.mk.inj hd).1
            have h2 := (Prod.mk.inj hd).2
            omega
        · have h1 := (Prod.mk.inj hd).1
          have h2 := (Prod.mk.inj hd).2
          omega
      · rw [dec4 s pos (by omega)] at hd
        split at hd
        · rename_i hc
          split at hd
          · rename_i hv
            obtain ⟨rfl, rfl⟩ := Prod.mk.inj hd
            have hvv := (valid_iff _).1 hv.2
            have hv1 := hv.1
            by_cases q1 : nb s pos = 240
            · exact slow4a g pos m cap (nb s pos) (nb s (pos + 1)) (nb s (pos + 2)) (nb s (pos + 3)) w ht hg (by omega) hm (hcell _ hp) (hcell _ hc.1.1) (hcell _ hc.2.1.1) (hcell _ hc.2.2.1) (by unfold firstOf; rw [if_neg h2, if_neg (by omega), if_neg (by omega), if_neg h3, if_pos q1]) (by omega) (by omega) (by omega) (by omega) (by omega) (by omega) (by omega) (by omega)
            · by_cases q2 : nb s pos = 244
              · exact slow4b g pos m cap (nb s pos) (nb s (pos + 1)) (nb s (pos + 2)) (nb s (pos + 3)) w ht hg (by omega) hm (hcell _ hp) (hcell _ hc.1.1) (hcell _ hc.2.1.1) (hcell _ hc.2.2.1) (by unfold firstOf; rw [if_neg h2, if_neg (by omega), if_neg (by omega), if_neg h3, if_neg q1, if_pos q2]) (by omega) (by omega) (by omega) (by omega) (by omega) (by omega) (by omega) (by omega)
              · exact slow4c g pos m cap (nb s pos) (nb s (pos + 1)) (nb s (pos + 2)) (nb s (pos + 3)) w ht hg (by omega) hm (hcell _ hp) (hcell _ hc.1.1) (hcell _ hc.2.1.1) (hcell _ hc.2.2.1) (by unfold firstOf; rw [if_neg h2, if_neg (by omega), if_neg (by omega), if_neg h3, if_neg q1, if_neg q2]) (by omega) (by omega) (by omega) (by omega) (by omega) (by omega) (by omega) (by omega)
          · have h1 := (Prod.mk.inj hd).1
            have h2 := (Prod.mk.inj hd).2
            omega
        · have h1 := (Prod.mk.inj hd).1
          have h2 := (Prod.mk.inj hd).2
          omega

set_option maxHeartbeats 4000000 in
set_option maxRecDepth 100000 in
theorem decodeRune (s : ByteArray) (g pos m cap r n : Nat) (w : World) (ht : Tables w) (hg : g < w.heap.size) (hs : s.size = pos + m) (hm : m ≤ 65536) (hcell : ∀ i, i < s.size → w.cell? ⟨g, i, none⟩ = some (.int .u8 (nb s i)))
    (hd : Utf8.decode s pos = (r, n)) (htold : told (Utf8.decode s pos) = ((r : Int), (n : Int))) (hn : 1 ≤ n) (hp : pos < s.size) :
    Calls Tryd.prog 11 #[.slice (some ⟨g, pos, none⟩) m cap] w fun e w' => e = .returned (.tuple #[.int .i32 (r : Int), .int .i64 (n : Int)]) ∧ Below w.heap.size w w' := by
  have hc0 := hcell pos hp
  have hlt := nb_lt s pos
  by_cases h128 : 128 ≤ nb s pos
  · have HS := Lib.hid (slow s g pos m cap r n w ht hg hs hm hcell hd htold hn hp h128)
    clear ht hcell hd htold
    generalize nb s pos = b0 at hc0 h128 hlt
    have q0 : (128 : Int) ≤ b0 := by omega
    have q1 : ¬ (b0 : Int) < 128 := by omega
    have m1 : (0 : Int) < m := by omega
    have m0 : 0 < m := by omega
    clear hs hp hm hn h128 hlt
    go_enter Tryd.func11, Tryd.ntmps11
    go_wp2_with (fail)
    go_loopw [5, 8] (fun v5 v8 wr => v8 = .int .i64 0 ∧ wr = w) (fun _ _ _ => 0)
    case atStart => exact ⟨rfl, rfl⟩
    case round =>
      obtain ⟨rfl, rfl⟩ := hrel
      go_wp2_with (fail)
      refine HS.out.mono ?_
      rintro e w' ⟨rfl, hb⟩
      go_wp2_with (fail)
      go_ret2
      exact ⟨rfl, hb⟩
  · rw [dec_low s pos (by omega)] at hd
    obtain ⟨rfl, rfl⟩ := Prod.mk.inj hd
    clear ht hcell htold hd
    generalize nb s pos = b0 at hc0 h128 hlt
    have q1 : (b0 : Int) < 128 := by omega
    have m1 : (0 : Int) < m := by omega
    have m0 : 0 < m := by omega
    clear hs hp hm h128 hlt
    go_enter Tryd.func11, Tryd.ntmps11
    go_wp2_with (fail)
    go_loopw [5, 8] (fun v5 v8 wr => v8 = .int .i64 0 ∧ wr = w) (fun _ _ _ => 0)
    case atStart => exact ⟨rfl, rfl⟩
    case round =>
      obtain ⟨rfl, rfl⟩ := hrel
      go_wp2_with (fail)
      go_ret2
      exact ⟨rfl, Below.refl _ _⟩
end Go.Proofs.YtbgghgibkjoopaaDoor.fnAdvance
