/-
  js_ast.IsOptionalChain, IsPropertyAccess and IsSymbolInstance; impl.IsOptionalChain, IsAccess and IsSymbol; spec.Valid, laws.zzFits3 and laws.leaf.
  Conditions: none.
-/
import Derived.Test.YtacokmkbikdmmaaGreatDoorNode
import Derived.Test.YtacokmkbikdmmaaGreatDoorMeanValid
import Derived.Test.YtacokmkbikdmmaaGreatDoorMeanSize
namespace Go.Proofs.YtacokmkbikdmmaaGreatDoor.trees
open Go Go.RowKit
set_option linter.unusedVariables false
set_option linter.unusedSimpArgs false

attribute [local go_sem] run_store_float
theorem yes66 (W : World) (v : Value) : (Instr.typeAssert (.iface 66 v) 39 66 true).run Tryz.prog W = .ok (.tuple #[v, .bool true]) W := by kernel_rfl
theorem zero66 (W : World) : (do pure (Value.tuple #[← zeroValue 66, .bool false]) : Sem Value).run Tryz.prog W = .ok (.tuple #[.pointer none, .bool false]) W := by kernel_rfl
theorem no66 (u : TypeId) (h : u ≠ 66) (W : World) (v : Value) : (Instr.typeAssert (.iface u v) 39 66 true).run Tryz.prog W = .ok (.tuple #[.pointer none, .bool false]) W := by
  have e : (Instr.typeAssert (.iface u v) 39 66 true).run Tryz.prog W = (if u = 66 then (pure (Value.tuple #[v, .bool true]) : Sem Value) else (do pure (Value.tuple #[← zeroValue 66, .bool false]))).run Tryz.prog W := by kernel_rfl
  rw [e, if_neg h]
  exact zero66 W
theorem yes70 (W : World) (v : Value) : (Instr.typeAssert (.iface 70 v) 39 70 true).run Tryz.prog W = .ok (.tuple #[v, .bool true]) W := by kernel_rfl
theorem zero70 (W : World) : (do pure (Value.tuple #[← zeroValue 70, .bool false]) : Sem Value).run Tryz.prog W = .ok (.tuple #[.pointer none, .bool false]) W := by kernel_rfl
theorem no70 (u : TypeId) (h : u ≠ 70) (W : World) (v : Value) : (Instr.typeAssert (.iface u v) 39 70 true).run Tryz.prog W = .ok (.tuple #[.pointer none, .bool false]) W := by
  have e : (Instr.typeAssert (.iface u v) 39 70 true).run Tryz.prog W = (if u = 70 then (pure (Value.tuple #[v, .bool true]) : Sem Value) else (do pure (Value.tuple #[← zeroValue 70, .bool false]))).run Tryz.prog W := by kernel_rfl
  rw [e, if_neg h]
  exact zero70 W
theorem yes73 (W : World) (v : Value) : (Instr.typeAssert (.iface 73 v) 39 73 true).run Tryz.prog W = .ok (.tuple #[v, .bool true]) W := by kernel_rfl
theorem zero73 (W : World) : (do pure (Value.tuple #[← zeroValue 73, .bool false]) : Sem Value).run Tryz.prog W = .ok (.tuple #[.pointer none, .bool false]) W := by kernel_rfl
theorem no73 (u : TypeId) (h : u ≠ 73) (W : World) (v : Value) : (Instr.typeAssert (.iface u v) 39 73 true).run Tryz.prog W = .ok (.tuple #[.pointer none, .bool false]) W := by
  have e : (Instr.typeAssert (.iface u v) 39 73 true).run Tryz.prog W = (if u = 73 then (pure (Value.tuple #[v, .bool true]) : Sem Value) else (do pure (Value.tuple #[← zeroValue 73, .bool false]))).run Tryz.prog W := by kernel_rfl
  rw [e, if_neg h]
  exact zero73 W
set_option maxHeartbeats 4000000 in
set_option maxRecDepth 100000 in
theorem isChain (x : X) (p : Nd) (W : World) (h : Top W x p) (hk : Kc x) : Calls Tryz.prog 18 #[.agg #[.iface p.1 (.pointer (some ⟨p.2, 0, none⟩)), .int .i32 0]] W (fun e w' => ∃ b, e = .returned (.bool b) ∧ (b = true ↔ ((x.kind = 16 ∨ x.kind = 17 ∨ x.kind = 18) ∧ x.chain ≠ 0)) ∧ Below W.heap.size W w') := by
  obtain ⟨T, b⟩ := p
  have HT := Lib.hid h
  have HK := Lib.hid hk
  clear h hk
  have hkind : x.kind = 16 ∨ x.kind = 17 ∨ x.kind = 18 ∨ (x.kind ≠ 16 ∧ x.kind ≠ 17 ∧ x.kind ≠ 18) := by omega
  rcases hkind with h | h | h | h
  · have HC := Lib.hid h
    clear h
    obtain rfl : T = 66 := (HT.out.dot HC.out).1
    have y66 := yes66
    have n70 := no70 66 (by decide)
    have n73 := no73 66 (by decide)
    have hc := (HT.out.dot HC.out).2.1
    have hs := (HT.out.dot HC.out).2.2
    have hcr := HK.out.chain (by have := HC.out; omega)
    rw [show x.chain % 256 = x.chain by omega] at hc
    clear hcr
    change W.cell? ⟨b, _, none⟩ = _ at hc
    change W.cell? ⟨b, _, none⟩ = _ at hs
    go_enter Tryz.func18, Tryz.ntmps18
    go_upto_region 1 with (fail)
    have hD := heap_alloc_new W (.cells #[.iface 66 (.pointer (some ⟨b, 0, none⟩)), .int .i32 0] 43)
    have hDb := (Below.refl W.heap.size W).alloc (Nat.le_refl _) (.cells #[.iface 66 (.pointer (some ⟨b, 0, none⟩)), .int .i32 0] 43)
    replace hc := (hDb.cell (World.block_lt_of_cell? _ _ hc)).trans hc
    replace hs := (hDb.cell (World.block_lt_of_cell? _ _ hs)).trans hs
    generalize W.alloc (.cells #[.iface 66 (.pointer (some ⟨b, 0, none⟩)), .int .i32 0] 43) = w1 at hD hDb hc hs ⊢
    have d0 : w1.cell? ⟨W.heap.size, 0, none⟩ = some (.iface 66 (.pointer (some ⟨b, 0, none⟩))) := blk_cell hD 0
    have HB := Lib.hid hDb
    clear hD hDb
    by_cases hz : x.chain = 0
    · rw [hz] at hc
      have HZ := Lib.hid hz
      clear hz
      go_wp2_with (fail)
      go_ret
      exact ⟨_, rfl, by simp [HZ.out], HB.out⟩
    · have HZ := Lib.hid hz
      have ez : (x.chain != 0) = true := bne_iff_ne.mpr hz
      go_wp2_with (fail)
      go_ret
      refine ⟨_, rfl, ⟨fun _ => ⟨by have := HC.out; omega, HZ.out⟩, fun _ => by first | rfl | trivial | simp_all⟩, HB.out⟩
  · have HC := Lib.hid h
    clear h
    obtain rfl : T = 70 := (HT.out.index HC.out).1
    have n66 := no66 70 (by decide)
    have y70 := yes70
    have n73 := no73 70 (by decide)
    have hc := (HT.out.index HC.out).2.1
    have hs := (HT.out.index HC.out).2.2
    have hcr := HK.out.chain (by have := HC.out; omega)
    rw [show x.chain % 256 = x.chain by omega] at hc
    clear hcr
    change W.cell? ⟨b, _, none⟩ = _ at hc
    change W.cell? ⟨b, _, none⟩ = _ at hs
    go_enter Tryz.func18, Tryz.ntmps18
    go_upto_region 1 with (fail)
    have hD := heap_alloc_new W (.cells #[.iface 70 (.pointer (some ⟨b, 0, none⟩)), .int .i32 0] 43)
    have hDb := (Below.refl W.heap.size W).alloc (Nat.le_refl _) (.cells #[.iface 70 (.pointer (some ⟨b, 0, none⟩)), .int .i32 0] 43)
    replace hc := (hDb.cell (World.block_lt_of_cell? _ _ hc)).trans hc
    replace hs := (hDb.cell (World.block_lt_of_cell? _ _ hs)).trans hs
    generalize W.alloc (.cells #[.iface 70 (.pointer (some ⟨b, 0, none⟩)), .int .i32 0] 43) = w1 at hD hDb hc hs ⊢
    have d0 : w1.cell? ⟨W.heap.size, 0, none⟩ = some (.iface 70 (.pointer (some ⟨b, 0, none⟩))) := blk_cell hD 0
    have HB := Lib.hid hDb
    clear hD hDb
    by_cases hz : x.chain = 0
    · rw [hz] at hc
      have HZ := Lib.hid hz
      clear hz
      go_wp2_with (fail)
      go_ret
      exact ⟨_, rfl, by simp [HZ.out], HB.out⟩
    · have HZ := Lib.hid hz
      have ez : (x.chain != 0) = true := bne_iff_ne.mpr hz
      go_wp2_with (fail)
      go_ret
      refine ⟨_, rfl, ⟨fun _ => ⟨by have := HC.out; omega, HZ.out⟩, fun _ => by first | rfl | trivial | simp_all⟩, HB.out⟩
  · have HC := Lib.hid h
    clear h
    obtain rfl : T = 73 := (HT.out.call HC.out).1
    have n66 := no66 73 (by decide)
    have n70 := no70 73 (by decide)
    have y73 := yes73
    have hc := (HT.out.call HC.out).2
    have hcr := HK.out.chain (by have := HC.out; omega)
    rw [show x.chain % 256 = x.chain by omega] at hc
    clear hcr
    change W.cell? ⟨b, _, none⟩ = _ at hc
    go_enter Tryz.func18, Tryz.ntmps18
    go_upto_region 1 with (fail)
    have hD := heap_alloc_new W (.cells #[.iface 73 (.pointer (some ⟨b, 0, none⟩)), .int .i32 0] 43)
    have hDb := (Below.refl W.heap.size W).alloc (Nat.le_refl _) (.cells #[.iface 73 (.pointer (some ⟨b, 0, none⟩)), .int .i32 0] 43)
    replace hc := (hDb.cell (World.block_lt_of_cell? _ _ hc)).trans hc
    generalize W.alloc (.cells #[.iface 73 (.pointer (some ⟨b, 0, none⟩)), .int .i32 0] 43) = w1 at hD hDb hc ⊢
    have d0 : w1.cell? ⟨W.heap.size, 0, none⟩ = some (.iface 73 (.pointer (some ⟨b, 0, none⟩))) := blk_cell hD 0
    have HB := Lib.hid hDb
    clear hD hDb
    by_cases hz : x.chain = 0
    · rw [hz] at hc
      have HZ := Lib.hid hz
      clear hz
      go_wp2_with (fail)
      go_ret
      exact ⟨_, rfl, by simp [HZ.out], HB.out⟩
    · have HZ := Lib.hid hz
      have ez : (x.chain != 0) = true := bne_iff_ne.mpr hz
      go_wp2_with (fail)
      go_ret
      refine ⟨_, rfl, ⟨fun _ => ⟨by have := HC.out; omega, HZ.out⟩, fun _ => by first | rfl | trivial | simp_all⟩, HB.out⟩
  · have HC := Lib.hid h
    clear h
    have hT := HT.out.other HC.out.1 HC.out.2.1 HC.out.2.2
    have hT1 : T ≠ 66 := hT.1
    have hT2 : T ≠ 70 := hT.2.1
    have hT3 : T ≠ 73 := hT.2.2
    clear hT
    have n66 := no66 T hT1
    have n70 := no70 T hT2
    have n73 := no73 T hT3
    clear hT1 hT2 hT3
    go_enter Tryz.func18, Tryz.ntmps18
    go_upto_region 1 with (fail)
    have hD := heap_alloc_new W (.cells #[.iface T (.pointer (some ⟨b, 0, none⟩)), .int .i32 0] 43)
    have hDb := (Below.refl W.heap.size W).alloc (Nat.le_refl _) (.cells #[.iface T (.pointer (some ⟨b, 0, none⟩)), .int .i32 0] 43)
    generalize W.alloc (.cells #[.iface T (.pointer (some ⟨b, 0, none⟩)), .int .i32 0] 43) = w1 at hD hDb  ⊢
    have d0 : w1.cell? ⟨W.heap.size, 0, none⟩ = some (.iface T (.pointer (some ⟨b, 0, none⟩))) := blk_cell hD 0
    have HB := Lib.hid hDb
    clear hD hDb
    go_wp2_with (fail)
    go_ret
    exact ⟨_, rfl, ⟨fun h => by simp at h, fun h => by have := HC.out; omega⟩, HB.out⟩
set_option maxHeartbeats 4000000 in
set_option maxRecDepth 100000 in
theorem isAccess (x : X) (p : Nd) (W : World) (h : Top W x p) (hk : Kc x) : Calls Tryz.prog 19 #[.agg #[.iface p.1 (.pointer (some ⟨p.2, 0, none⟩)), .int .i32 0]] W (fun e w' => ∃ b, e = .returned (.bool b) ∧ (b = true ↔ (x.kind = 16 ∨ x.kind = 17)) ∧ Below W.heap.size W w') := by
  obtain ⟨T, b⟩ := p
  have HT := Lib.hid h
  have HK := Lib.hid hk
  clear h hk
  have hkind : x.kind = 16 ∨ x.kind = 17 ∨ x.kind = 18 ∨ (x.kind ≠ 16 ∧ x.kind ≠ 17 ∧ x.kind ≠ 18) := by omega
  rcases hkind with h | h | h | h
  · have HC := Lib.hid h
    clear h
    obtain rfl : T = 66 := (HT.out.dot HC.out).1
    have y66 := yes66
    have n70 := no70 66 (by decide)
    have n73 := no73 66 (by decide)
    have hc := (HT.out.dot HC.out).2.1
    have hs := (HT.out.dot HC.out).2.2
    have hcr := HK.out.chain (by have := HC.out; omega)
    rw [show x.chain % 256 = x.chain by omega] at hc
    clear hcr
    change W.cell? ⟨b, _, none⟩ = _ at hc
    change W.cell? ⟨b, _, none⟩ = _ at hs
    go_enter Tryz.func19, Tryz.ntmps19
    go_upto_region 1 with (fail)
    have hD := heap_alloc_new W (.cells #[.iface 66 (.pointer (some ⟨b, 0, none⟩)), .int .i32 0] 43)
    have hDb := (Below.refl W.heap.size W).alloc (Nat.le_refl _) (.cells #[.iface 66 (.pointer (some ⟨b, 0, none⟩)), .int .i32 0] 43)
    replace hc := (hDb.cell (World.block_lt_of_cell? _ _ hc)).trans hc
    replace hs := (hDb.cell (World.block_lt_of_cell? _ _ hs)).trans hs
    generalize W.alloc (.cells #[.iface 66 (.pointer (some ⟨b, 0, none⟩)), .int .i32 0] 43) = w1 at hD hDb hc hs ⊢
    have d0 : w1.cell? ⟨W.heap.size, 0, none⟩ = some (.iface 66 (.pointer (some ⟨b, 0, none⟩))) := blk_cell hD 0
    have HB := Lib.hid hDb
    clear hD hDb
    go_wp2_with (fail)
    go_ret
    exact ⟨_, rfl, ⟨fun _ => by have := HC.out; omega, fun _ => rfl⟩, HB.out⟩
  · have HC := Lib.hid h
    clear h
    obtain rfl : T = 70 := (HT.out.index HC.out).1
    have n66 := no66 70 (by decide)
    have y70 := yes70
    have n73 := no73 70 (by decide)
    have hc := (HT.out.index HC.out).2.1
    have hs := (HT.out.index HC.out).2.2
    have hcr := HK.out.chain (by have := HC.out; omega)
    rw [show x.chain % 256 = x.chain by omega] at hc
    clear hcr
    change W.cell? ⟨b, _, none⟩ = _ at hc
    change W.cell? ⟨b, _, none⟩ = _ at hs
    go_enter Tryz.func19, Tryz.ntmps19
    go_upto_region 1 with (fail)
    have hD := heap_alloc_new W (.cells #[.iface 70 (.pointer (some ⟨b, 0, none⟩)), .int .i32 0] 43)
    have hDb := (Below.refl W.heap.size W).alloc (Nat.le_refl _) (.cells #[.iface 70 (.pointer (some ⟨b, 0, none⟩)), .int .i32 0] 43)
    replace hc := (hDb.cell (World.block_lt_of_cell? _ _ hc)).trans hc
    replace hs := (hDb.cell (World.block_lt_of_cell? _ _ hs)).trans hs
    generalize W.alloc (.cells #[.iface 70 (.pointer (some ⟨b, 0, none⟩)), .int .i32 0] 43) = w1 at hD hDb hc hs ⊢
    have d0 : w1.cell? ⟨W.heap.size, 0, none⟩ = some (.iface 70 (.pointer (some ⟨b, 0, none⟩))) := blk_cell hD 0
    have HB := Lib.hid hDb
    clear hD hDb
    go_wp2_with (fail)
    go_ret
    exact ⟨_, rfl, ⟨fun _ => by have := HC.out; omega, fun _ => rfl⟩, HB.out⟩
  · have HC := Lib.hid h
    clear h
    obtain rfl : T = 73 := (HT.out.call HC.out).1
    have n66 := no66 73 (by decide)
    have n70 := no70 73 (by decide)
    have y73 := yes73
    have hc := (HT.out.call HC.out).2
    have hcr := HK.out.chain (by have := HC.out; omega)
    rw [show x.chain % 256 = x.chain by omega] at hc
    clear hcr
    change W.cell? ⟨b, _, none⟩ = _ at hc
    go_enter Tryz.func19, Tryz.ntmps19
    go_upto_region 1 with (fail)
    have hD := heap_alloc_new W (.cells #[.iface 73 (.pointer (some ⟨b, 0, none⟩)), .int .i32 0] 43)
    have hDb := (Below.refl W.heap.size W).alloc (Nat.le_refl _) (.cells #[.iface 73 (.pointer (some ⟨b, 0, none⟩)), .int .i32 0] 43)
    replace hc := (hDb.cell (World.block_lt_of_cell? _ _ hc)).trans hc
    generalize W.alloc (.cells #[.iface 73 (.pointer (some ⟨b, 0, none⟩)), .int .i32 0] 43) = w1 at hD hDb hc ⊢
    have d0 : w1.cell? ⟨W.heap.size, 0, none⟩ = some (.iface 73 (.pointer (some ⟨b, 0, none⟩))) := blk_cell hD 0
    have HB := Lib.hid hDb
    clear hD hDb
    go_wp2_with (fail)
    go_ret
    exact ⟨_, rfl, ⟨fun h => by simp at h, fun h => by have := HC.out; omega⟩, HB.out⟩
  · have HC := Lib.hid h
    clear h
    have hT := HT.out.other HC.out.1 HC.out.2.1 HC.out.2.2
    have hT1 : T ≠ 66 := hT.1
    have hT2 : T ≠ 70 := hT.2.1
    have hT3 : T ≠ 73 := hT.2.2
    clear hT
    have n66 := no66 T hT1
    have n70 := no70 T hT2
    have n73 := no73 T hT3
    clear hT1 hT2 hT3
    go_enter Tryz.func19, Tryz.ntmps19
    go_upto_region 1 with (fail)
    have hD := heap_alloc_new W (.cells #[.iface T (.pointer (some ⟨b, 0, none⟩)), .int .i32 0] 43)
    have hDb := (Below.refl W.heap.size W).alloc (Nat.le_refl _) (.cells #[.iface T (.pointer (some ⟨b, 0, none⟩)), .int .i32 0] 43)
    generalize W.alloc (.cells #[.iface T (.pointer (some ⟨b, 0, none⟩)), .int .i32 0] 43) = w1 at hD hDb  ⊢
    have d0 : w1.cell? ⟨W.heap.size, 0, none⟩ = some (.iface T (.pointer (some ⟨b, 0, none⟩))) := blk_cell hD 0
    have HB := Lib.hid hDb
    clear hD hDb
    go_wp2_with (fail)
    go_ret
    exact ⟨_, rfl, ⟨fun h => by simp at h, fun h => by have := HC.out; omega⟩, HB.out⟩
set_option maxHeartbeats 4000000 in
set_option maxRecDepth 100000 in
theorem isSymbol (x : X) (p : Nd) (W : World) (h : Top W x p) (hk : Kc x) : Calls Tryz.prog 20 #[.iface p.1 (.pointer (some ⟨p.2, 0, none⟩))] W (fun e w' => ∃ b, e = .returned (.bool b) ∧ (b = true ↔ ((x.kind = 16 ∨ x.kind = 17) ∧ bits .and .i64 x.flags 4 ≠ 0)) ∧ Below W.heap.size W w') := by
  obtain ⟨T, b⟩ := p
  have HT := Lib.hid h
  have HK := Lib.hid hk
  clear h hk
  have hkind : x.kind = 16 ∨ x.kind = 17 ∨ x.kind = 18 ∨ (x.kind ≠ 16 ∧ x.kind ≠ 17 ∧ x.kind ≠ 18) := by omega
  rcases hkind with h | h | h | h
  · have HC := Lib.hid h
    clear h
    obtain rfl : T = 66 := (HT.out.dot HC.out).1
    have y66 := yes66
    have n70 := no70 66 (by decide)
    have n73 := no73 66 (by decide)
    have hc := (HT.out.dot HC.out).2.1
    have hs := (HT.out.dot HC.out).2.2
    have hcr := HK.out.chain (by have := HC.out; omega)
    rw [show x.chain % 256 = x.chain by omega] at hc
    clear hcr
    change W.cell? ⟨b, _, none⟩ = _ at hc
    change W.cell? ⟨b, _, none⟩ = _ at hs
    go_enter Tryz.func20, Tryz.ntmps20
    go_wp2_with (fail)
    go_ret
    exact ⟨_, rfl, ⟨fun h => ⟨by have := HC.out; omega, bne_iff_ne.1 h⟩, fun h => bne_iff_ne.2 h.2⟩, Below.refl _ _⟩
  · have HC := Lib.hid h
    clear h
    obtain rfl : T = 70 := (HT.out.index HC.out).1
    have n66 := no66 70 (by decide)
    have y70 := yes70
    have n73 := no73 70 (by decide)
    have hc := (HT.out.index HC.out).2.1
    have hs := (HT.out.index HC.out).2.2
    have hcr := HK.out.chain (by have := HC.out; omega)
    rw [show x.chain % 256 = x.chain by omega] at hc
    clear hcr
    change W.cell? ⟨b, _, none⟩ = _ at hc
    change W.cell? ⟨b, _, none⟩ = _ at hs
    go_enter Tryz.func20, Tryz.ntmps20
    go_wp2_with (fail)
    go_ret
    exact ⟨_, rfl, ⟨fun h => ⟨by have := HC.out; omega, bne_iff_ne.1 h⟩, fun h => bne_iff_ne.2 h.2⟩, Below.refl _ _⟩
  · have HC := Lib.hid h
    clear h
    obtain rfl : T = 73 := (HT.out.call HC.out).1
    have n66 := no66 73 (by decide)
    have n70 := no70 73 (by decide)
    have y73 := yes73
    have hc := (HT.out.call HC.out).2
    have hcr := HK.out.chain (by have := HC.out; omega)
    rw [show x.chain % 256 = x.chain by omega] at hc
    clear hcr
    change W.cell? ⟨b, _, none⟩ = _ at hc
    go_enter Tryz.func20, Tryz.ntmps20
    go_wp2_with (fail)
    go_ret
    exact ⟨_, rfl, ⟨fun h => by simp at h, fun h => by have := HC.out; omega⟩, Below.refl _ _⟩
  · have HC := Lib.hid h
    clear h
    have hT := HT.out.other HC.out.1 HC.out.2.1 HC.out.2.2
    have hT1 : T ≠ 66 := hT.1
    have hT2 : T ≠ 70 := hT.2.1
    have hT3 : T ≠ 73 := hT.2.2
    clear hT
    have n66 := no66 T hT1
    have n70 := no70 T hT2
    have n73 := no73 T hT3
    clear hT1 hT2 hT3
    go_enter Tryz.func20, Tryz.ntmps20
    go_wp2_with (fail)
    go_ret
    exact ⟨_, rfl, ⟨fun h => by simp at h, fun h => by have := HC.out; omega⟩, Below.refl _ _⟩
set_option maxHeartbeats 4000000 in
set_option maxRecDepth 100000 in
theorem implChain (n : Nat) (x : X) (N : Nat) (W W1 : World) (h : Ex C2 N W n x.cells) (h0 : Below N W W1) (hN : N ≤ W.heap.size) : Calls Tryz.prog 9 #[.agg #[.int .i64 x.kind, .int .i64 x.op, .int .i64 x.ref, .int .i64 x.chain, .int .i64 x.flags, .float .f64 x.num, .slice x.sa x.sn x.sc, .string x.text, .slice x.ka x.kn x.kc, .slice x.pa x.pn x.pc, .slice x.qa x.qn x.qc, .slice x.fa x.fn x.fc, .slice x.ca x.cn x.cc]] W1 (fun e w' => ∃ b, e = .returned (.bool b) ∧ (b = true ↔ ((x.kind = 16 ∨ x.kind = 17 ∨ x.kind = 18) ∧ x.chain ≠ 0)) ∧ Below W1.heap.size W1 w') := by
  have HK : Hid (Kc x) := by
    cases n with
    | zero => exact h.elim
    | succ n => exact Lib.hid (Ex_x.1 h).1.2.1
  have HX := Lib.hid (⟨h, h0⟩ : _ ∧ _)
  clear h h0
  go_enter Tryz.func9, Tryz.ntmps9
  go_upto_region 1 with (fail)
  have hD := heap_alloc_new W1 (.cells #[.int .i64 x.kind, .int .i64 x.op, .int .i64 x.ref, .int .i64 x.chain, .int .i64 x.flags, .float .f64 x.num, .slice x.sa x.sn x.sc, .string x.text, .slice x.ka x.kn x.kc, .slice x.pa x.pn x.pc, .slice x.qa x.qn x.qc, .slice x.fa x.fn x.fc, .slice x.ca x.cn x.cc] 30)
  have hDb := (Below.refl W1.heap.size W1).alloc (Nat.le_refl _) (.cells #[.int .i64 x.kind, .int .i64 x.op, .int .i64 x.ref, .int .i64 x.chain, .int .i64 x.flags, .float .f64 x.num, .slice x.sa x.sn x.sc, .string x.text, .slice x.ka x.kn x.kc, .slice x.pa x.pn x.pc, .slice x.qa x.qn x.qc, .slice x.fa x.fn x.fc, .slice x.ca x.cn x.cc] 30)
  have hDs : (W1.alloc (.cells #[.int .i64 x.kind, .int .i64 x.op, .int .i64 x.ref, .int .i64 x.chain, .int .i64 x.flags, .float .f64 x.num, .slice x.sa x.sn x.sc, .string x.text, .slice x.ka x.kn x.kc, .slice x.pa x.pn x.pc, .slice x.qa x.qn x.qc, .slice x.fa x.fn x.fc, .slice x.ca x.cn x.cc] 30)).heap.size = W1.heap.size + 1 := by simp
  generalize W1.alloc (.cells #[.int .i64 x.kind, .int .i64 x.op, .int .i64 x.ref, .int .i64 x.chain, .int .i64 x.flags, .float .f64 x.num, .slice x.sa x.sn x.sc, .string x.text, .slice x.ka x.kn x.kc, .slice x.pa x.pn x.pc, .slice x.qa x.qn x.qc, .slice x.fa x.fn x.fc, .slice x.ca x.cn x.cc] 30) = w1 at hD hDb hDs ⊢
  have d0 : w1.cell? ⟨W1.heap.size, 0, none⟩ = some (.int .i64 x.kind) := blk_cell hD 0
  have d1 : w1.cell? ⟨W1.heap.size, 1, none⟩ = some (.int .i64 x.op) := blk_cell hD 1
  have d2 : w1.cell? ⟨W1.heap.size, 2, none⟩ = some (.int .i64 x.ref) := blk_cell hD 2
  have d3 : w1.cell? ⟨W1.heap.size, 3, none⟩ = some (.int .i64 x.chain) := blk_cell hD 3
  have d4 : w1.cell? ⟨W1.heap.size, 4, none⟩ = some (.int .i64 x.flags) := blk_cell hD 4
  have d5 : w1.cell? ⟨W1.heap.size, 5, none⟩ = some (.float .f64 x.num) := blk_cell hD 5
  have d6 : w1.cell? ⟨W1.heap.size, 6, none⟩ = some (.slice x.sa x.sn x.sc) := blk_cell hD 6
  have d7 : w1.cell? ⟨W1.heap.size, 7, none⟩ = some (.string x.text) := blk_cell hD 7
  have d8 : w1.cell? ⟨W1.heap.size, 8, none⟩ = some (.slice x.ka x.kn x.kc) := blk_cell hD 8
  have d9 : w1.cell? ⟨W1.heap.size, 9, none⟩ = some (.slice x.pa x.pn x.pc) := blk_cell hD 9
  have d10 : w1.cell? ⟨W1.heap.size, 10, none⟩ = some (.slice x.qa x.qn x.qc) := blk_cell hD 10
  have d11 : w1.cell? ⟨W1.heap.size, 11, none⟩ = some (.slice x.fa x.fn x.fc) := blk_cell hD 11
  have d12 : w1.cell? ⟨W1.heap.size, 12, none⟩ = some (.slice x.ca x.cn x.cc) := blk_cell hD 12
  have HD := Lib.hid (⟨hD, hDb, hDs⟩ : _ ∧ _ ∧ _)
  clear hD hDb hDs
  generalize Value.agg #[.int .i64 x.kind, .int .i64 x.op, .int .i64 x.ref, .int .i64 x.chain, .int .i64 x.flags, .float .f64 x.num, .slice x.sa x.sn x.sc, .string x.text, .slice x.ka x.kn x.kc, .slice x.pa x.pn x.pc, .slice x.qa x.qn x.qc, .slice x.fa x.fn x.fc, .slice x.ca x.cn x.cc] = arg
  go_wp2_with (fail)
  refine (node n x N W _ HX.out.1 (bl HX.out.2 hN HD.out.2.1) hN).mono ?_
  rintro e w2 ⟨p, rfl, htop, hbel⟩
  have HT := Lib.hid (⟨htop, bl2 HD.out.2.1 hbel⟩ : _ ∧ _)
  clear htop hbel d0 d1 d2 d3 d4 d5 d6 d7 d8 d9 d10 d11 d12
  go_upto_region 2 with (fail)
  have hD := heap_alloc_new w2 (.cells #[.iface p.1 (.pointer (some ⟨p.2, 0, none⟩)), .int .i32 0] 43)
  have hDb := (Below.refl w2.heap.size w2).alloc (Nat.le_refl _) (.cells #[.iface p.1 (.pointer (some ⟨p.2, 0, none⟩)), .int .i32 0] 43)
  generalize w2.alloc (.cells #[.iface p.1 (.pointer (some ⟨p.2, 0, none⟩)), .int .i32 0] 43) = w3 at hD hDb ⊢
  have c0 : w3.cell? ⟨w2.heap.size, 0, none⟩ = some (.iface p.1 (.pointer (some ⟨p.2, 0, none⟩))) := blk_cell hD 0
  have c1 : w3.cell? ⟨w2.heap.size, 1, none⟩ = some (.int .i32 0) := blk_cell hD 1
  have H3 := Lib.hid (⟨HT.out.1.below hDb, bl2 HT.out.2 hDb⟩ : _ ∧ _)
  clear hD hDb
  go_wp2_with (fail)
  refine (isChain x p _ H3.out.1 HK.out).mono ?_
  rintro e w4 ⟨b, rfl, hb, hbel⟩
  have H4 := Lib.hid (⟨hb, bl2 H3.out.2 hbel⟩ : _ ∧ _)
  clear hb hbel c0 c1
  go_wp2_with (fail)
  go_ret
  exact ⟨b, rfl, H4.out.1, H4.out.2⟩
set_option maxHeartbeats 4000000 in
set_option maxRecDepth 100000 in
theorem implAccess (n : Nat) (x : X) (N : Nat) (W W1 : World) (h : Ex C2 N W n x.cells) (h0 : Below N W W1) (hN : N ≤ W.heap.size) : Calls Tryz.prog 10 #[.agg #[.int .i64 x.kind, .int .i64 x.op, .int .i64 x.ref, .int .i64 x.chain, .int .i64 x.flags, .float .f64 x.num, .slice x.sa x.sn x.sc, .string x.text, .slice x.ka x.kn x.kc, .slice x.pa x.pn x.pc, .slice x.qa x.qn x.qc, .slice x.fa x.fn x.fc, .slice x.ca x.cn x.cc]] W1 (fun e w' => ∃ b, e = .returned (.bool b) ∧ (b = true ↔ (x.kind = 16 ∨ x.kind = 17)) ∧ Below W1.heap.size W1 w') := by
  have HK : Hid (Kc x) := by
    cases n with
    | zero => exact h.elim
    | succ n => exact Lib.hid (Ex_x.1 h).1.2.1
  have HX := Lib.hid (⟨h, h0⟩ : _ ∧ _)
  clear h h0
  go_enter Tryz.func10, Tryz.ntmps10
  go_upto_region 1 with (fail)
  have hD := heap_alloc_new W1 (.cells #[.int .i64 x.kind, .int .i64 x.op, .int .i64 x.ref, .int .i64 x.chain, .int .i64 x.flags, .float .f64 x.num, .slice x.sa x.sn x.sc, .string x.text, .slice x.ka x.kn x.kc, .slice x.pa x.pn x.pc, .slice x.qa x.qn x.qc, .slice x.fa x.fn x.fc, .slice x.ca x.cn x.cc] 30)
  have hDb := (Below.refl W1.heap.size W1).alloc (Nat.le_refl _) (.cells #[.int .i64 x.kind, .int .i64 x.op, .int .i64 x.ref, .int .i64 x.chain, .int .i64 x.flags, .float .f64 x.num, .slice x.sa x.sn x.sc, .string x.text, .slice x.ka x.kn x.kc, .slice x.pa x.pn x.pc, .slice x.qa x.qn x.qc, .slice x.fa x.fn x.fc, .slice x.ca x.cn x.cc] 30)
  have hDs : (W1.alloc (.cells #[.int .i64 x.kind, .int .i64 x.op, .int .i64 x.ref, .int .i64 x.chain, .int .i64 x.flags, .float .f64 x.num, .slice x.sa x.sn x.sc, .string x.text, .slice x.ka x.kn x.kc, .slice x.pa x.pn x.pc, .slice x.qa x.qn x.qc, .slice x.fa x.fn x.fc, .slice x.ca x.cn x.cc] 30)).heap.size = W1.heap.size + 1 := by simp
  generalize W1.alloc (.cells #[.int .i64 x.kind, .int .i64 x.op, .int .i64 x.ref, .int .i64 x.chain, .int .i64 x.flags, .float .f64 x.num, .slice x.sa x.sn x.sc, .string x.text, .slice x.ka x.kn x.kc, .slice x.pa x.pn x.pc, .slice x.qa x.qn x.qc, .slice x.fa x.fn x.fc, .slice x.ca x.cn x.cc] 30) = w1 at hD hDb hDs ⊢
  have d0 : w1.cell? ⟨W1.heap.size, 0, none⟩ = some (.int .i64 x.kind) := blk_cell hD 0
  have d1 : w1.cell? ⟨W1.heap.size, 1, none⟩ = some (.int .i64 x.op) := blk_cell hD 1
  have d2 : w1.cell? ⟨W1.heap.size, 2, none⟩ = some (.int .i64 x.ref) := blk_cell hD 2
  have d3 : w1.cell? ⟨W1.heap.size, 3, none⟩ = some (.int .i64 x.chain) := blk_cell hD 3
  have d4 : w1.cell? ⟨W1.heap.size, 4, none⟩ = some (.int .i64 x.flags) := blk_cell hD 4
  have d5 : w1.cell? ⟨W1.heap.size, 5, none⟩ = some (.float .f64 x.num) := blk_cell hD 5
  have d6 : w1.cell? ⟨W1.heap.size, 6, none⟩ = some (.slice x.sa x.sn x.sc) := blk_cell hD 6
  have d7 : w1.cell? ⟨W1.heap.size, 7, none⟩ = some (.string x.text) := blk_cell hD 7
  have d8 : w1.cell? ⟨W1.heap.size, 8, none⟩ = some (.slice x.ka x.kn x.kc) := blk_cell hD 8
  have d9 : w1.cell? ⟨W1.heap.size, 9, none⟩ = some (.slice x.pa x.pn x.pc) := blk_cell hD 9
  have d10 : w1.cell? ⟨W1.heap.size, 10, none⟩ = some (.slice x.qa x.qn x.qc) := blk_cell hD 10
  have d11 : w1.cell? ⟨W1.heap.size, 11, none⟩ = some (.slice x.fa x.fn x.fc) := blk_cell hD 11
  have d12 : w1.cell? ⟨W1.heap.size, 12, none⟩ = some (.slice x.ca x.cn x.cc) := blk_cell hD 12
  have HD := Lib.hid (⟨hD, hDb, hDs⟩ : _ ∧ _ ∧ _)
  clear hD hDb hDs
  generalize Value.agg #[.int .i64 x.kind, .int .i64 x.op, .int .i64 x.ref, .int .i64 x.chain, .int .i64 x.flags, .float .f64 x.num, .slice x.sa x.sn x.sc, .string x.text, .slice x.ka x.kn x.kc, .slice x.pa x.pn x.pc, .slice x.qa x.qn x.qc, .slice x.fa x.fn x.fc, .slice x.ca x.cn x.cc] = arg
  go_wp2_with (fail)
  refine (node n x N W _ HX.out.1 (bl HX.out.2 hN HD.out.2.1) hN).mono ?_
  rintro e w2 ⟨p, rfl, htop, hbel⟩
  have HT := Lib.hid (⟨htop, bl2 HD.out.2.1 hbel⟩ : _ ∧ _)
  clear htop hbel d0 d1 d2 d3 d4 d5 d6 d7 d8 d9 d10 d11 d12
  go_upto_region 2 with (fail)
  have hD := heap_alloc_new w2 (.cells #[.iface p.1 (.pointer (some ⟨p.2, 0, none⟩)), .int .i32 0] 43)
  have hDb := (Below.refl w2.heap.size w2).alloc (Nat.le_refl _) (.cells #[.iface p.1 (.pointer (some ⟨p.2, 0, none⟩)), .int .i32 0] 43)
  generalize w2.alloc (.cells #[.iface p.1 (.pointer (some ⟨p.2, 0, none⟩)), .int .i32 0] 43) = w3 at hD hDb ⊢
  have c0 : w3.cell? ⟨w2.heap.size, 0, none⟩ = some (.iface p.1 (.pointer (some ⟨p.2, 0, none⟩))) := blk_cell hD 0
  have c1 : w3.cell? ⟨w2.heap.size, 1, none⟩ = some (.int .i32 0) := blk_cell hD 1
  have H3 := Lib.hid (⟨HT.out.1.below hDb, bl2 HT.out.2 hDb⟩ : _ ∧ _)
  clear hD hDb
  go_wp2_with (fail)
  refine (isAccess x p _ H3.out.1 HK.out).mono ?_
  rintro e w4 ⟨b, rfl, hb, hbel⟩
  have H4 := Lib.hid (⟨hb, bl2 H3.out.2 hbel⟩ : _ ∧ _)
  clear hb hbel c0 c1
  go_wp2_with (fail)
  go_ret
  exact ⟨b, rfl, H4.out.1, H4.out.2⟩
set_option maxHeartbeats 4000000 in
set_option maxRecDepth 100000 in
theorem implSymbol (n : Nat) (x : X) (N : Nat) (W W1 : World) (h : Ex C2 N W n x.cells) (h0 : Below N W W1) (hN : N ≤ W.heap.size) : Calls Tryz.prog 11 #[.agg #[.int .i64 x.kind, .int .i64 x.op, .int .i64 x.ref, .int .i64 x.chain, .int .i64 x.flags, .float .f64 x.num, .slice x.sa x.sn x.sc, .string x.text, .slice x.ka x.kn x.kc, .slice x.pa x.pn x.pc, .slice x.qa x.qn x.qc, .slice x.fa x.fn x.fc, .slice x.ca x.cn x.cc]] W1 (fun e w' => ∃ b, e = .returned (.bool b) ∧ (b = true ↔ ((x.kind = 16 ∨ x.kind = 17) ∧ bits .and .i64 x.flags 4 ≠ 0)) ∧ Below W1.heap.size W1 w') := by
  have HK : Hid (Kc x) := by
    cases n with
    | zero => exact h.elim
    | succ n => exact Lib.hid (Ex_x.1 h).1.2.1
  have HX := Lib.hid (⟨h, h0⟩ : _ ∧ _)
  clear h h0
  go_enter Tryz.func11, Tryz.ntmps11
  go_upto_region 1 with (fail)
  have hD := heap_alloc_new W1 (.cells #[.int .i64 x.kind, .int .i64 x.op, .int .i64 x.ref, .int .i64 x.chain, .int .i64 x.flags, .float .f64 x.num, .slice x.sa x.sn x.sc, .string x.text, .slice x.ka x.kn x.kc, .slice x.pa x.pn x.pc, .slice x.qa x.qn x.qc, .slice x.fa x.fn x.fc, .slice x.ca x.cn x.cc] 30)
  have hDb := (Below.refl W1.heap.size W1).alloc (Nat.le_refl _) (.cells #[.int .i64 x.kind, .int .i64 x.op, .int .i64 x.ref, .int .i64 x.chain, .int .i64 x.flags, .float .f64 x.num, .slice x.sa x.sn x.sc, .string x.text, .slice x.ka x.kn x.kc, .slice x.pa x.pn x.pc, .slice x.qa x.qn x.qc, .slice x.fa x.fn x.fc, .slice x.ca x.cn x.cc] 30)
  have hDs : (W1.alloc (.cells #[.int .i64 x.kind, .int .i64 x.op, .int .i64 x.ref, .int .i64 x.chain, .int .i64 x.flags, .float .f64 x.num, .slice x.sa x.sn x.sc, .string x.text, .slice x.ka x.kn x.kc, .slice x.pa x.pn x.pc, .slice x.qa x.qn x.qc, .slice x.fa x.fn x.fc, .slice x.ca x.cn x.cc] 30)).heap.size = W1.heap.size + 1 := by simp
  generalize W1.alloc (.cells #[.int .i64 x.kind, .int .i64 x.op, .int .i64 x.ref, .int .i64 x.chain, .int .i64 x.flags, .float .f64 x.num, .slice x.sa x.sn x.sc, .string x.text, .slice x.ka x.kn x.kc, .slice x.pa x.pn x.pc, .slice x.qa x.qn x.qc, .slice x.fa x.fn x.fc, .slice x.ca x.cn x.cc] 30) = w1 at hD hDb hDs ⊢
  have d0 : w1.cell? ⟨W1.heap.size, 0, none⟩ = some (.int .i64 x.kind) := blk_cell hD 0
  have d1 : w1.cell? ⟨W1.heap.size, 1, none⟩ = some (.int .i64 x.op) := blk_cell hD 1
  have d2 : w1.cell? ⟨W1.heap.size, 2, none⟩ = some (.int .i64 x.ref) := blk_cell hD 2
  have d3 : w1.cell? ⟨W1.heap.size, 3, none⟩ = some (.int .i64 x.chain) := blk_cell hD 3
  have d4 : w1.cell? ⟨W1.heap.size, 4, none⟩ = some (.int .i64 x.flags) := blk_cell hD 4
  have d5 : w1.cell? ⟨W1.heap.size, 5, none⟩ = some (.float .f64 x.num) := blk_cell hD 5
  have d6 : w1.cell? ⟨W1.heap.size, 6, none⟩ = some (.slice x.sa x.sn x.sc) := blk_cell hD 6
  have d7 : w1.cell? ⟨W1.heap.size, 7, none⟩ = some (.string x.text) := blk_cell hD 7
  have d8 : w1.cell? ⟨W1.heap.size, 8, none⟩ = some (.slice x.ka x.kn x.kc) := blk_cell hD 8
  have d9 : w1.cell? ⟨W1.heap.size, 9, none⟩ = some (.slice x.pa x.pn x.pc) := blk_cell hD 9
  have d10 : w1.cell? ⟨W1.heap.size, 10, none⟩ = some (.slice x.qa x.qn x.qc) := blk_cell hD 10
  have d11 : w1.cell? ⟨W1.heap.size, 11, none⟩ = some (.slice x.fa x.fn x.fc) := blk_cell hD 11
  have d12 : w1.cell? ⟨W1.heap.size, 12, none⟩ = some (.slice x.ca x.cn x.cc) := blk_cell hD 12
  have HD := Lib.hid (⟨hD, hDb, hDs⟩ : _ ∧ _ ∧ _)
  clear hD hDb hDs
  generalize Value.agg #[.int .i64 x.kind, .int .i64 x.op, .int .i64 x.ref, .int .i64 x.chain, .int .i64 x.flags, .float .f64 x.num, .slice x.sa x.sn x.sc, .string x.text, .slice x.ka x.kn x.kc, .slice x.pa x.pn x.pc, .slice x.qa x.qn x.qc, .slice x.fa x.fn x.fc, .slice x.ca x.cn x.cc] = arg
  go_wp2_with (fail)
  refine (node n x N W _ HX.out.1 (bl HX.out.2 hN HD.out.2.1) hN).mono ?_
  rintro e w2 ⟨p, rfl, htop, hbel⟩
  have HT := Lib.hid (⟨htop, bl2 HD.out.2.1 hbel⟩ : _ ∧ _)
  clear htop hbel d0 d1 d2 d3 d4 d5 d6 d7 d8 d9 d10 d11 d12
  go_upto_region 2 with (fail)
  have hD := heap_alloc_new w2 (.cells #[.iface p.1 (.pointer (some ⟨p.2, 0, none⟩)), .int .i32 0] 43)
  have hDb := (Below.refl w2.heap.size w2).alloc (Nat.le_refl _) (.cells #[.iface p.1 (.pointer (some ⟨p.2, 0, none⟩)), .int .i32 0] 43)
  generalize w2.alloc (.cells #[.iface p.1 (.pointer (some ⟨p.2, 0, none⟩)), .int .i32 0] 43) = w3 at hD hDb ⊢
  have c0 : w3.cell? ⟨w2.heap.size, 0, none⟩ = some (.iface p.1 (.pointer (some ⟨p.2, 0, none⟩))) := blk_cell hD 0
  have c1 : w3.cell? ⟨w2.heap.size, 1, none⟩ = some (.int .i32 0) := blk_cell hD 1
  have H3 := Lib.hid (⟨HT.out.1.below hDb, bl2 HT.out.2 hDb⟩ : _ ∧ _)
  clear hD hDb
  go_wp2_with (fail)
  refine (isSymbol x p _ H3.out.1 HK.out).mono ?_
  rintro e w4 ⟨b, rfl, hb, hbel⟩
  have H4 := Lib.hid (⟨hb, bl2 H3.out.2 hbel⟩ : _ ∧ _)
  clear hb hbel c0 c1
  go_wp2_with (fail)
  go_ret
  exact ⟨b, rfl, H4.out.1, H4.out.2⟩
set_option maxHeartbeats 4000000 in
set_option maxRecDepth 100000 in
theorem valid (n : Nat) (x : X) (N : Nat) (W W1 : World) (h : Ex C0 N W n x.cells) (h0 : Below N W W1) (hN : N ≤ W.heap.size) : Calls Tryz.prog 7 #[.agg #[.int .i64 x.kind, .int .i64 x.op, .int .i64 x.ref, .int .i64 x.chain, .int .i64 x.flags, .float .f64 x.num, .slice x.sa x.sn x.sc, .string x.text, .slice x.ka x.kn x.kc, .slice x.pa x.pn x.pc, .slice x.qa x.qn x.qc, .slice x.fa x.fn x.fc, .slice x.ca x.cn x.cc]] W1 (fun e w' => Pb W1 (Ex C2 N W n x.cells) e w') := by
  have HX := Lib.hid (⟨h, h0⟩ : _ ∧ _)
  clear h h0
  go_enter Tryz.func7, Tryz.ntmps7
  go_upto_region 1 with (fail)
  have hD := heap_alloc_new W1 (.cells #[.int .i64 x.kind, .int .i64 x.op, .int .i64 x.ref, .int .i64 x.chain, .int .i64 x.flags, .float .f64 x.num, .slice x.sa x.sn x.sc, .string x.text, .slice x.ka x.kn x.kc, .slice x.pa x.pn x.pc, .slice x.qa x.qn x.qc, .slice x.fa x.fn x.fc, .slice x.ca x.cn x.cc] 30)
  have hDb := (Below.refl W1.heap.size W1).alloc (Nat.le_refl _) (.cells #[.int .i64 x.kind, .int .i64 x.op, .int .i64 x.ref, .int .i64 x.chain, .int .i64 x.flags, .float .f64 x.num, .slice x.sa x.sn x.sc, .string x.text, .slice x.ka x.kn x.kc, .slice x.pa x.pn x.pc, .slice x.qa x.qn x.qc, .slice x.fa x.fn x.fc, .slice x.ca x.cn x.cc] 30)
  have hDs : (W1.alloc (.cells #[.int .i64 x.kind, .int .i64 x.op, .int .i64 x.ref, .int .i64 x.chain, .int .i64 x.flags, .float .f64 x.num, .slice x.sa x.sn x.sc, .string x.text, .slice x.ka x.kn x.kc, .slice x.pa x.pn x.pc, .slice x.qa x.qn x.qc, .slice x.fa x.fn x.fc, .slice x.ca x.cn x.cc] 30)).heap.size = W1.heap.size + 1 := by simp
  generalize W1.alloc (.cells #[.int .i64 x.kind, .int .i64 x.op, .int .i64 x.ref, .int .i64 x.chain, .int .i64 x.flags, .float .f64 x.num, .slice x.sa x.sn x.sc, .string x.text, .slice x.ka x.kn x.kc, .slice x.pa x.pn x.pc, .slice x.qa x.qn x.qc, .slice x.fa x.fn x.fc, .slice x.ca x.cn x.cc] 30) = w1 at hD hDb hDs ⊢
  have d0 : w1.cell? ⟨W1.heap.size, 0, none⟩ = some (.int .i64 x.kind) := blk_cell hD 0
  have d1 : w1.cell? ⟨W1.heap.size, 1, none⟩ = some (.int .i64 x.op) := blk_cell hD 1
  have d2 : w1.cell? ⟨W1.heap.size, 2, none⟩ = some (.int .i64 x.ref) := blk_cell hD 2
  have d3 : w1.cell? ⟨W1.heap.size, 3, none⟩ = some (.int .i64 x.chain) := blk_cell hD 3
  have d4 : w1.cell? ⟨W1.heap.size, 4, none⟩ = some (.int .i64 x.flags) := blk_cell hD 4
  have d5 : w1.cell? ⟨W1.heap.size, 5, none⟩ = some (.float .f64 x.num) := blk_cell hD 5
  have d6 : w1.cell? ⟨W1.heap.size, 6, none⟩ = some (.slice x.sa x.sn x.sc) := blk_cell hD 6
  have d7 : w1.cell? ⟨W1.heap.size, 7, none⟩ = some (.string x.text) := blk_cell hD 7
  have d8 : w1.cell? ⟨W1.heap.size, 8, none⟩ = some (.slice x.ka x.kn x.kc) := blk_cell hD 8
  have d9 : w1.cell? ⟨W1.heap.size, 9, none⟩ = some (.slice x.pa x.pn x.pc) := blk_cell hD 9
  have d10 : w1.cell? ⟨W1.heap.size, 10, none⟩ = some (.slice x.qa x.qn x.qc) := blk_cell hD 10
  have d11 : w1.cell? ⟨W1.heap.size, 11, none⟩ = some (.slice x.fa x.fn x.fc) := blk_cell hD 11
  have d12 : w1.cell? ⟨W1.heap.size, 12, none⟩ = some (.slice x.ca x.cn x.cc) := blk_cell hD 12
  have HD := Lib.hid (⟨hD, hDb, hDs⟩ : _ ∧ _ ∧ _)
  clear hD hDb hDs
  generalize Value.agg #[.int .i64 x.kind, .int .i64 x.op, .int .i64 x.ref, .int .i64 x.chain, .int .i64 x.flags, .float .f64 x.num, .slice x.sa x.sn x.sc, .string x.text, .slice x.ka x.kn x.kc, .slice x.pa x.pn x.pc, .slice x.qa x.qn x.qc, .slice x.fa x.fn x.fc, .slice x.ca x.cn x.cc] = arg
  go_wp2_with (fail)
  refine (shallow n x N W _ 30 HX.out.1 (bl HX.out.2 hN HD.out.2.1) hN).mono ?_
  rintro e w2 ⟨b, rfl, hb, hbel⟩
  replace d0 := (hbel.cell (World.block_lt_of_cell? _ _ d0)).trans d0
  replace d1 := (hbel.cell (World.block_lt_of_cell? _ _ d1)).trans d1
  replace d2 := (hbel.cell (World.block_lt_of_cell? _ _ d2)).trans d2
  replace d3 := (hbel.cell (World.block_lt_of_cell? _ _ d3)).trans d3
  replace d4 := (hbel.cell (World.block_lt_of_cell? _ _ d4)).trans d4
  replace d5 := (hbel.cell (World.block_lt_of_cell? _ _ d5)).trans d5
  replace d6 := (hbel.cell (World.block_lt_of_cell? _ _ d6)).trans d6
  replace d7 := (hbel.cell (World.block_lt_of_cell? _ _ d7)).trans d7
  replace d8 := (hbel.cell (World.block_lt_of_cell? _ _ d8)).trans d8
  replace d9 := (hbel.cell (World.block_lt_of_cell? _ _ d9)).trans d9
  replace d10 := (hbel.cell (World.block_lt_of_cell? _ _ d10)).trans d10
  replace d11 := (hbel.cell (World.block_lt_of_cell? _ _ d11)).trans d11
  replace d12 := (hbel.cell (World.block_lt_of_cell? _ _ d12)).trans d12
  have H2 := Lib.hid (⟨hb, bl2 HD.out.2.1 hbel⟩ : _ ∧ _)
  clear hb hbel
  cases b with
  | false =>
    go_wp2_with (fail)
    go_ret
    exact ⟨false, rfl, fun h => by simp at h, H2.out.2⟩
  | true =>
    go_wp2_with (fail)
    refine (meanSize n x N W _ 200 HX.out.1 (bl HX.out.2 hN H2.out.2) hN).mono ?_
    rintro e w3 ⟨m, rfl, hbel⟩
    replace d0 := (hbel.cell (World.block_lt_of_cell? _ _ d0)).trans d0
    replace d1 := (hbel.cell (World.block_lt_of_cell? _ _ d1)).trans d1
    replace d2 := (hbel.cell (World.block_lt_of_cell? _ _ d2)).trans d2
    replace d3 := (hbel.cell (World.block_lt_of_cell? _ _ d3)).trans d3
    replace d4 := (hbel.cell (World.block_lt_of_cell? _ _ d4)).trans d4
    replace d5 := (hbel.cell (World.block_lt_of_cell? _ _ d5)).trans d5
    replace d6 := (hbel.cell (World.block_lt_of_cell? _ _ d6)).trans d6
    replace d7 := (hbel.cell (World.block_lt_of_cell? _ _ d7)).trans d7
    replace d8 := (hbel.cell (World.block_lt_of_cell? _ _ d8)).trans d8
    replace d9 := (hbel.cell (World.block_lt_of_cell? _ _ d9)).trans d9
    replace d10 := (hbel.cell (World.block_lt_of_cell? _ _ d10)).trans d10
    replace d11 := (hbel.cell (World.block_lt_of_cell? _ _ d11)).trans d11
    replace d12 := (hbel.cell (World.block_lt_of_cell? _ _ d12)).trans d12
    have H3 := Lib.hid (bl2 H2.out.2 hbel)
    clear hbel
    by_cases hm : m ≤ 200
    · have em : decide (m ≤ 200) = true := decide_eq_true hm
      clear hm
      go_wp2_with (fail)
      refine (meanValid n x N W _ (H2.out.1 (by first | rfl | trivial)) (bl HX.out.2 hN H3.out) hN).mono ?_
      rintro e w4 ⟨b, rfl, hb, hbel⟩
      have H4 := Lib.hid (⟨hb, bl2 H3.out hbel⟩ : _ ∧ _)
      clear hb hbel d0 d1 d2 d3 d4 d5 d6 d7 d8 d9 d10 d11 d12
      go_wp2_with (fail)
      go_ret
      exact ⟨b, rfl, H4.out.1, H4.out.2⟩
    · have em : decide (m ≤ 200) = false := decide_eq_false hm
      clear hm
      go_wp2_with (fail)
      go_ret
      exact ⟨false, rfl, fun h => by simp at h, H3.out⟩
set_option maxHeartbeats 4000000 in
set_option maxRecDepth 100000 in
theorem zzFits3 (x : X) (W : World) : Calls Tryz.prog 6 #[.agg #[.int .i64 x.kind, .int .i64 x.op, .int .i64 x.ref, .int .i64 x.chain, .int .i64 x.flags, .float .f64 x.num, .slice x.sa x.sn x.sc, .string x.text, .slice x.ka x.kn x.kc, .slice x.pa x.pn x.pc, .slice x.qa x.qn x.qc, .slice x.fa x.fn x.fc, .slice x.ca x.cn x.cc]] W (fun e w' => Pb W True e w') := by
  go_enter Tryz.func6, Tryz.ntmps6
  go_upto_region 1 with (fail)
  have hD := heap_alloc_new W (.cells #[.int .i64 x.kind, .int .i64 x.op, .int .i64 x.ref, .int .i64 x.chain, .int .i64 x.flags, .float .f64 x.num, .slice x.sa x.sn x.sc, .string x.text, .slice x.ka x.kn x.kc, .slice x.pa x.pn x.pc, .slice x.qa x.qn x.qc, .slice x.fa x.fn x.fc, .slice x.ca x.cn x.cc] 30)
  have hDb := (Below.refl W.heap.size W).alloc (Nat.le_refl _) (.cells #[.int .i64 x.kind, .int .i64 x.op, .int .i64 x.ref, .int .i64 x.chain, .int .i64 x.flags, .float .f64 x.num, .slice x.sa x.sn x.sc, .string x.text, .slice x.ka x.kn x.kc, .slice x.pa x.pn x.pc, .slice x.qa x.qn x.qc, .slice x.fa x.fn x.fc, .slice x.ca x.cn x.cc] 30)
  have hDs : (W.alloc (.cells #[.int .i64 x.kind, .int .i64 x.op, .int .i64 x.ref, .int .i64 x.chain, .int .i64 x.flags, .float .f64 x.num, .slice x.sa x.sn x.sc, .string x.text, .slice x.ka x.kn x.kc, .slice x.pa x.pn x.pc, .slice x.qa x.qn x.qc, .slice x.fa x.fn x.fc, .slice x.ca x.cn x.cc] 30)).heap.size = W.heap.size + 1 := by simp
  generalize W.alloc (.cells #[.int .i64 x.kind, .int .i64 x.op, .int .i64 x.ref, .int .i64 x.chain, .int .i64 x.flags, .float .f64 x.num, .slice x.sa x.sn x.sc, .string x.text, .slice x.ka x.kn x.kc, .slice x.pa x.pn x.pc, .slice x.qa x.qn x.qc, .slice x.fa x.fn x.fc, .slice x.ca x.cn x.cc] 30) = w1 at hD hDb hDs ⊢
  have d6 : w1.cell? ⟨W.heap.size, 6, none⟩ = some (.slice x.sa x.sn x.sc) := blk_cell hD 6
  have d7 : w1.cell? ⟨W.heap.size, 7, none⟩ = some (.string x.text) := blk_cell hD 7
  have d8 : w1.cell? ⟨W.heap.size, 8, none⟩ = some (.slice x.ka x.kn x.kc) := blk_cell hD 8
  have d9 : w1.cell? ⟨W.heap.size, 9, none⟩ = some (.slice x.pa x.pn x.pc) := blk_cell hD 9
  have d10 : w1.cell? ⟨W.heap.size, 10, none⟩ = some (.slice x.qa x.qn x.qc) := blk_cell hD 10
  have d11 : w1.cell? ⟨W.heap.size, 11, none⟩ = some (.slice x.fa x.fn x.fc) := blk_cell hD 11
  have d12 : w1.cell? ⟨W.heap.size, 12, none⟩ = some (.slice x.ca x.cn x.cc) := blk_cell hD 12
  have HD := Lib.hid (⟨hD, hDb, hDs⟩ : _ ∧ _ ∧ _)
  clear hD hDb hDs
  have hb := HD.out.2.1
  go_wp2_with (fail)
  all_goals
    go_ret
    exact pb _ hb
set_option maxHeartbeats 4000000 in
set_option maxRecDepth 100000 in
theorem size30 : (Tryz.prog.info? 30).map (·.size) = some 13 := by kernel_rfl
theorem lawsLeaf (k : Int) (f : Nat) (W : World) : Calls Tryz.prog 8 #[.int .i64 k, .float .f64 f] W (fun e w' => e = .returned (.agg #[.int .i64 k, .int .i64 0, .int .i64 0, .int .i64 0, .int .i64 0, .float .f64 f, .slice none 0 0, .string ⟨#[]⟩, .slice none 0 0, .slice none 0 0, .slice none 0 0, .slice none 0 0, .slice none 0 0]) ∧ Below W.heap.size W w') := by
  have hb := (Below.refl W.heap.size W).alloc (Nat.le_refl _) (.cells #[.int .i64 k, .int .i64 0, .int .i64 0, .int .i64 0, .int .i64 0, .float .f64 f, .slice none 0 0, .string ⟨#[]⟩, .slice none 0 0, .slice none 0 0, .slice none 0 0, .slice none 0 0, .slice none 0 0] 30)
  go_enter Tryz.func8, Tryz.ntmps8
  go_wp2_with (fail)
  have hc := heap_alloc_new W (.cells #[.int .i64 k, .int .i64 0, .int .i64 0, .int .i64 0, .int .i64 0, .float .f64 f, .slice none 0 0, .string ⟨#[]⟩, .slice none 0 0, .slice none 0 0, .slice none 0 0, .slice none 0 0, .slice none 0 0] 30)
  generalize W.alloc (.cells #[.int .i64 k, .int .i64 0, .int .i64 0, .int .i64 0, .int .i64 0, .float .f64 f, .slice none 0 0, .string ⟨#[]⟩, .slice none 0 0, .slice none 0 0, .slice none 0 0, .slice none 0 0, .slice none 0 0] 30) = w1 at hb hc ⊢
  exact bodyPost_ret (results_cell_row rfl _ _ W.heap.size 30 _ (0, 0) _ rfl hc Tryz.underlying30 rfl (by rw [size30]; rfl)) rfl ⟨rfl, hb⟩
end Go.Proofs.YtacokmkbikdmmaaGreatDoor.trees
