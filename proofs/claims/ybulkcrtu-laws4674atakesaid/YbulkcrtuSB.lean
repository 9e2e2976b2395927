import Derived.Test.YbulkcrtuSA
namespace Go.Proofs.Ybulkcrtu
open Go.RowKit

/-! ### The types -/
theorem mixed : Yba.prog.follows .mixedOrders = true := by kernel_rfl
theorem info37 : (Yba.prog.info? 37).map (·.size) = some 4 := by kernel_rfl
theorem info35 : (Yba.prog.info? 35).map (·.size) = some 3 := by kernel_rfl
theorem info40 : (Yba.prog.info? 40).map (·.size) = some 32 := by kernel_rfl
theorem info55 : (Yba.prog.info? 55).map (·.size) = some 36 := by kernel_rfl
theorem info65 : (Yba.prog.info? 65).map (·.size) = some 64 := by kernel_rfl
theorem info52 : (Yba.prog.info? 52).map (·.size) = some 2 := by kernel_rfl
theorem info59 : (Yba.prog.info? 59).map (·.size) = some 2 := by kernel_rfl
theorem ag3 (w : World) : (isAgg 3).run Yba.prog w = .ok false w := by kernel_rfl
theorem ag4 (w : World) : (isAgg 4).run Yba.prog w = .ok false w := by kernel_rfl
theorem ag5 (w : World) : (isAgg 5).run Yba.prog w = .ok false w := by kernel_rfl
theorem ag42 (w : World) : (isAgg 42).run Yba.prog w = .ok false w := by kernel_rfl
theorem ag43 (w : World) : (isAgg 43).run Yba.prog w = .ok false w := by kernel_rfl
theorem ag44 (w : World) : (isAgg 44).run Yba.prog w = .ok false w := by kernel_rfl
theorem ag46 (w : World) : (isAgg 46).run Yba.prog w = .ok false w := by kernel_rfl
theorem ag53 (w : World) : (isAgg 53).run Yba.prog w = .ok false w := by kernel_rfl
theorem ag23 (w : World) : (isAgg 23).run Yba.prog w = .ok false w := by kernel_rfl
theorem ag126 (w : World) : (isAgg 126).run Yba.prog w = .ok false w := by kernel_rfl
theorem sz3 (w : World) : (sizeOf 3).run Yba.prog w = .ok 1 w := by kernel_rfl
theorem sz4 (w : World) : (sizeOf 4).run Yba.prog w = .ok 1 w := by kernel_rfl
theorem sz5 (w : World) : (sizeOf 5).run Yba.prog w = .ok 1 w := by kernel_rfl
theorem sz42 (w : World) : (sizeOf 42).run Yba.prog w = .ok 1 w := by kernel_rfl
theorem sz53 (w : World) : (sizeOf 53).run Yba.prog w = .ok 1 w := by kernel_rfl
theorem sz126 (w : World) : (sizeOf 126).run Yba.prog w = .ok 1 w := by kernel_rfl
section
variable (b o : Nat) (w : World)
theorem fld49_0 : (Instr.fieldAt 49 (.pointer (some ⟨b, o, none⟩)) 0).run Yba.prog w = .ok (.pointer (some ⟨b, o, none⟩)) w := by kernel_rfl
theorem fld49_1 : (Instr.fieldAt 49 (.pointer (some ⟨b, o, none⟩)) 1).run Yba.prog w = .ok (.pointer (some ⟨b, o + 4, none⟩)) w := by kernel_rfl
theorem fld49_3 : (Instr.fieldAt 49 (.pointer (some ⟨b, o, none⟩)) 3).run Yba.prog w = .ok (.pointer (some ⟨b, o + 68, none⟩)) w := by kernel_rfl
theorem fld49_4 : (Instr.fieldAt 49 (.pointer (some ⟨b, o, none⟩)) 4).run Yba.prog w = .ok (.pointer (some ⟨b, o + 100, none⟩)) w := by kernel_rfl
theorem fld49_5 : (Instr.fieldAt 49 (.pointer (some ⟨b, o, none⟩)) 5).run Yba.prog w = .ok (.pointer (some ⟨b, o + 101, none⟩)) w := by kernel_rfl
theorem fld49_6 : (Instr.fieldAt 49 (.pointer (some ⟨b, o, none⟩)) 6).run Yba.prog w = .ok (.pointer (some ⟨b, o + 102, none⟩)) w := by kernel_rfl
theorem fld49_7 : (Instr.fieldAt 49 (.pointer (some ⟨b, o, none⟩)) 7).run Yba.prog w = .ok (.pointer (some ⟨b, o + 103, none⟩)) w := by kernel_rfl
theorem fld49_9 : (Instr.fieldAt 49 (.pointer (some ⟨b, o, none⟩)) 9).run Yba.prog w = .ok (.pointer (some ⟨b, o + 105, none⟩)) w := by kernel_rfl
theorem fld49_10 : (Instr.fieldAt 49 (.pointer (some ⟨b, o, none⟩)) 10).run Yba.prog w = .ok (.pointer (some ⟨b, o + 106, none⟩)) w := by kernel_rfl
theorem fld55_0 : (Instr.fieldAt 55 (.pointer (some ⟨b, o, none⟩)) 0).run Yba.prog w = .ok (.pointer (some ⟨b, o, none⟩)) w := by kernel_rfl
theorem fld55_1 : (Instr.fieldAt 55 (.pointer (some ⟨b, o, none⟩)) 1).run Yba.prog w = .ok (.pointer (some ⟨b, o + 32, none⟩)) w := by kernel_rfl
theorem fld59_0 : (Instr.fieldAt 59 (.pointer (some ⟨b, o, none⟩)) 0).run Yba.prog w = .ok (.pointer (some ⟨b, o, none⟩)) w := by kernel_rfl
theorem fld59_1 : (Instr.fieldAt 59 (.pointer (some ⟨b, o, none⟩)) 1).run Yba.prog w = .ok (.pointer (some ⟨b, o + 1, none⟩)) w := by kernel_rfl
theorem fld52_0 : (Instr.fieldAt 52 (.pointer (some ⟨b, o, none⟩)) 0).run Yba.prog w = .ok (.pointer (some ⟨b, o, none⟩)) w := by kernel_rfl
theorem fld52_1 : (Instr.fieldAt 52 (.pointer (some ⟨b, o, none⟩)) 1).run Yba.prog w = .ok (.pointer (some ⟨b, o + 1, none⟩)) w := by kernel_rfl
end
section
variable (b o n c j : Nat) (w : World)
theorem add_mid' (m : Nat) : (⟨b, o, none⟩ : Addr).add m = ⟨b, o + m, none⟩ := Addr.add_mid b o m
theorem idxS {t e sz : Nat} (hu : Yba.prog.underlying t = some (.slice e)) (hs : ∀ w : World, (sizeOf e).run Yba.prog w = .ok sz w) (hj : j < n) : (Instr.indexAt t (.slice (some ⟨b, o, none⟩) n c) (.int .i64 (j : Int))).run Yba.prog w = .ok (.pointer (some ⟨b, o + j * sz, none⟩)) w := by
  simp [Instr.indexAt, asIntOf, run_underlying hu, hs, hj, Addr.add_mid]
theorem idxA {t e sz N : Nat} (hu : Yba.prog.underlying t = some (.array N e)) (hs : ∀ w : World, (sizeOf e).run Yba.prog w = .ok sz w) (hj : j < N) : (Instr.indexAt t (.pointer (some ⟨b, o, none⟩)) (.int .i64 (j : Int))).run Yba.prog w = .ok (.pointer (some ⟨b, o + j * sz, none⟩)) w := by
  simp [Instr.indexAt, asIntOf, Instr.sureAddr, run_underlying hu, hs, hj, Addr.add_mid]
end
theorem sz55 (w : World) : (sizeOf 55).run Yba.prog w = .ok 36 w := by kernel_rfl
theorem sz52 (w : World) : (sizeOf 52).run Yba.prog w = .ok 2 w := by kernel_rfl
theorem sz65 (w : World) : (sizeOf 65).run Yba.prog w = .ok 64 w := by kernel_rfl
theorem sz37 (w : World) : (sizeOf 37).run Yba.prog w = .ok 4 w := by kernel_rfl

/-! ### Memory made -/
theorem box_agg {t : TypeId} (cs : List Value) (w : World) : (Instr.box t (.agg cs.toArray)).run Yba.prog w = .ok (.pointer (some ⟨w.heap.size, 0, none⟩)) (w.alloc (.cells cs.toArray t)) := by
  simp [go_sem, Instr.box]
theorem made (w : World) (cs : List Value) (t : TypeId) : Below w.heap.size w (w.alloc (.cells cs.toArray t)) ∧ (w.alloc (.cells cs.toArray t)).heap.size = w.heap.size + 1 ∧ Row (w.alloc (.cells cs.toArray t)) w.heap.size t cs.length (fun i => cs.getD i undef) :=
  ⟨below_alloc _ _, by simp, Row.alloc _ _ _⟩
/-- w' is w with one new block, cs. -/
def Made (w w' : World) (t : TypeId) (cs : List Value) : Prop := Below w.heap.size w w' ∧ w'.heap.size = w.heap.size + 1 ∧ Row w' w.heap.size t cs.length (fun i => cs.getD i undef)
theorem mk_box {t : TypeId} (cs : List Value) (w : World) : ∃ w', (Instr.box t (.agg cs.toArray)).run Yba.prog w = .ok (.pointer (some ⟨w.heap.size, 0, none⟩)) w' ∧ Made w w' t cs := ⟨_, box_agg cs w, made w cs t⟩
theorem mk_box1 {t : TypeId} (v : Value) (hv : v.cells = #[v]) (w : World) : ∃ w', (Instr.box t v).run Yba.prog w = .ok (.pointer (some ⟨w.heap.size, 0, none⟩)) w' ∧ Made w w' t [v] := by
  refine ⟨w.alloc (.cells #[v] t), ?_, made w [v] t⟩
  unfold Instr.box newVar
  rw [hv]
  simp [go_sem]
theorem mk_alloc {t : TypeId} (cs : List Value) (hz : ∀ w : World, (Instr.alloc t true (.tuple #[])).run Yba.prog w = .ok (.pointer (some ⟨w.heap.size, 0, none⟩)) (w.alloc (.cells cs.toArray t))) (w : World) :
    ∃ w', (Instr.alloc t true (.tuple #[])).run Yba.prog w = .ok (.pointer (some ⟨w.heap.size, 0, none⟩)) w' ∧ Made w w' t cs := ⟨_, hz w, made w cs t⟩
def zs (n : Nat) (v : Value) : List Value := List.replicate n v
theorem al3 (w : World) : (Instr.alloc 3 true (.tuple #[])).run Yba.prog w = .ok (.pointer (some ⟨w.heap.size, 0, none⟩)) (w.alloc (.cells [Value.int .i64 0].toArray 3)) := by kernel_rfl
theorem al4 (w : World) : (Instr.alloc 4 true (.tuple #[])).run Yba.prog w = .ok (.pointer (some ⟨w.heap.size, 0, none⟩)) (w.alloc (.cells [Value.bool false].toArray 4)) := by kernel_rfl
theorem al26 (w : World) : (Instr.alloc 26 true (.tuple #[])).run Yba.prog w = .ok (.pointer (some ⟨w.heap.size, 0, none⟩)) (w.alloc (.cells (zs 5 (.bool false)).toArray 26)) := by kernel_rfl
theorem al37 (w : World) : (Instr.alloc 37 true (.tuple #[])).run Yba.prog w = .ok (.pointer (some ⟨w.heap.size, 0, none⟩)) (w.alloc (.cells [Value.int .u64 0, .int .u64 0, .pointer none, .int .u16 0].toArray 37)) := by kernel_rfl
theorem al40 (w : World) : (Instr.alloc 40 true (.tuple #[])).run Yba.prog w = .ok (.pointer (some ⟨w.heap.size, 0, none⟩)) (w.alloc (.cells (zs 32 (.int .u8 0)).toArray 40)) := by kernel_rfl
theorem al50 (w : World) : (Instr.alloc 50 true (.tuple #[])).run Yba.prog w = .ok (.pointer (some ⟨w.heap.size, 0, none⟩)) (w.alloc (.cells (zs 256 (.int .i64 0)).toArray 50)) := by kernel_rfl
theorem al52 (w : World) : (Instr.alloc 52 true (.tuple #[])).run Yba.prog w = .ok (.pointer (some ⟨w.heap.size, 0, none⟩)) (w.alloc (.cells [Value.int .u8 0, .int .u8 0].toArray 52)) := by kernel_rfl
theorem al53 (w : World) : (Instr.alloc 53 true (.tuple #[])).run Yba.prog w = .ok (.pointer (some ⟨w.heap.size, 0, none⟩)) (w.alloc (.cells [Value.slice none 0 0].toArray 53)) := by kernel_rfl
theorem al55 (w : World) : (Instr.alloc 55 true (.tuple #[])).run Yba.prog w = .ok (.pointer (some ⟨w.heap.size, 0, none⟩)) (w.alloc (.cells (zs 32 (.int .u8 0) ++ [Value.int .u64 0, .int .u64 0, .pointer none, .int .u16 0]).toArray 55)) := by kernel_rfl
theorem al65 (w : World) : (Instr.alloc 65 true (.tuple #[])).run Yba.prog w = .ok (.pointer (some ⟨w.heap.size, 0, none⟩)) (w.alloc (.cells (zs 64 (.int .u8 0)).toArray 65)) := by kernel_rfl
theorem al126 (w : World) : (Instr.alloc 126 true (.tuple #[])).run Yba.prog w = .ok (.pointer (some ⟨w.heap.size, 0, none⟩)) (w.alloc (.cells [Value.nilFunc].toArray 126)) := by kernel_rfl

/-- A result that lies in a cell. -/
theorem rtc {fn : Func} {R : Ending → World → Prop} {a : Act} {w : World} {N : Nat} {l : List (Nat × Value)} {s ty b t n : Nat} {g : Nat → Value} {d : TypeDesc} (hA : At a N l) (hr : fn.results = #[.cell s ty]) (hv : look l s = some (.pointer (some ⟨b, 0, none⟩)))
    (hR : Row w b t n g) (cs : List Value) (hu : Yba.prog.underlying ty = some d) (hd : d.isRow = true) (hi : (Yba.prog.info? ty).map (·.size) = some cs.length) (hc : ∀ j v, cs[j]? = some v → j < n ∧ g j = v) (h : R (.returned (.agg cs.toArray)) w) : bodyPost Yba.prog fn R .ret a w := by
  refine bodyPost_ret (v := .agg cs.toArray) ?_ hA.defers h
  have hl := run_loadVar_mid (P := Yba.prog) w b 0 ty cs d (fun j v hj => by rw [Nat.zero_add, hR.cell (hc j v hj).1, (hc j v hj).2]) hu hd hi
  have hp' : a.tmps[s]?.getD undef = .pointer (some ⟨b, 0, none⟩) := by rw [hA.get s _ hv]; rfl
  simp [results, hr, hp', asAddr, hl]
end Go.Proofs.Ybulkcrtu
