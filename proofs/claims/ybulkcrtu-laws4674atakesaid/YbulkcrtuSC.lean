import Derived.Test.YbulkcrtuSB
namespace Go.Proofs.Ybulkcrtu
open Go.RowKit

theorem info49 : (Yba.prog.info? 49).map (·.size) = some 109 := by kernel_rfl
/-- The port of a byte. -/
def portOf (x : Int) : Int := x % 4 + 1
theorem portOf_bounds (x : Int) : 1 ≤ portOf x ∧ portOf x ≤ 4 := by unfold portOf; omega
theorem port_any (x : Int) (h0 : 0 ≤ x) (h1 : x ≤ 255) (w : World) : Calls Yba.prog 5 #[.int .u8 x] w fun e w' => e = .returned (.int .u16 (portOf x)) ∧ w' = w := by
  go_enter Yba.func5, Yba.ntmps5
  go_wp2
  go_ret
  refine ⟨?_, rfl⟩
  unfold portOf
  go_num
def ipC : List Value := [.int .u64 0, .int .u64 0, .pointer none]
def apC (port : Int) : List Value := [.int .u64 0, .int .u64 0, .pointer none, .int .u16 port]
def apV (port : Int) : Value := .agg (apC port).toArray
theorem build37 (port : Int) (w : World) : (Instr.build 37 #[(0, .agg ipC.toArray), (1, .int .u16 port)]).run Yba.prog w = .ok (apV port) w := by kernel_rfl
theorem build35 (w : World) : (Instr.build 35 #[]).run Yba.prog w = .ok (.agg ipC.toArray) w := by kernel_rfl
theorem getD_cells {cs : List Value} {j : Nat} {v : Value} (h : cs[j]? = some v) : cs.getD j undef = v := by rw [List.getD_eq_getElem?_getD, h]; rfl
theorem lt_cells {cs : List Value} {j : Nat} {v : Value} (h : cs[j]? = some v) : j < cs.length := (List.getElem?_eq_some_iff.1 h).1
theorem Made.row {w w' : World} {t : TypeId} {cs : List Value} (h : Made w w' t cs) : Row w' w.heap.size t cs.length (fun i => cs.getD i undef) := h.2.2
theorem Made.load {w w' : World} {t : TypeId} {cs : List Value} (h : Made w w' t cs) {ty : TypeId} {d : TypeDesc} (hu : Yba.prog.underlying ty = some d) (hd : d.isRow = true) (hi : (Yba.prog.info? ty).map (·.size) = some cs.length) :
    (Instr.loadAt ty (.pointer (some ⟨w.heap.size, 0, none⟩))).run Yba.prog w' = .ok (.agg cs.toArray) w' :=
  h.row.load cs hu hd hi (fun j v hj => ⟨by have := lt_cells hj; omega, by rw [Nat.zero_add]; exact getD_cells hj⟩)
set_option maxRecDepth 100000 in
theorem from_any (port : Int) (w : World) : Calls Yba.prog 13 #[.agg ipC.toArray, .int .u16 port] w fun e w' => e = .returned (apV port) ∧ Below w.heap.size w w' := by
  refine enter (args := [.agg ipC.toArray, .int .u16 port]) Yba.func13 rfl 8 Yba.ntmps13 rfl fun a hA => ?_
  refine sq ?_
  refine st hA (wn rfl) rfl rfl (x_box rfl (mk_box _ _)) fun a w1 hA m1 => ?_
  refine st hA (wn rfl) rfl rfl (x_alloc (mk_alloc _ al37 _)) fun a w2 hA m2 => ?_
  refine fin ?_
  have h1 := m1.row.below m2.1 (by rw [m1.2.1]; omega)
  refine sq ?_
  refine st0 hA (wn rfl) rfl rfl (x_load rfl (h1.load ipC Yba.underlying35 rfl info35 fun j v hj => ⟨by have := lt_cells hj; omega, by rw [Nat.zero_add]; exact getD_cells hj⟩)) fun a hA => ?_
  refine st0 hA (wn rfl) rfl rfl (x_mv rfl) fun a hA => ?_
  refine st0 hA (wn rfl) rfl rfl (x_build rfl (build37 _ _)) fun a hA => ?_
  refine stn hA (wn rfl) rfl (x_store rfl rfl (m2.row.store (apC port) info37 rfl (Nat.le_refl _))) fun w3 ⟨u3, r3⟩ => ?_
  refine fin ?_
  refine wp_ret ?_
  refine rtc hA rfl rfl r3 (apC port) Yba.underlying37 rfl info37 (fun j v hj => ?_) ⟨rfl, ?_⟩
  · have := lt_cells hj
    refine ⟨this, ?_⟩
    rw [if_pos (by omega)]
    exact getD_cells hj
  · exact (m1.1.trans (m2.1.mono (by rw [m1.2.1]; omega))).trans (u3.below (by rw [m1.2.1]; omega))

theorem c13 : Callable 13 := ⟨_, Yba.func13, by kernel_rfl, rfl⟩
theorem c5 : Callable 5 := ⟨_, Yba.func5, by kernel_rfl, rfl⟩
theorem c6 : Callable 6 := ⟨_, Yba.func6, by kernel_rfl, rfl⟩
theorem c7 : Callable 7 := ⟨_, Yba.func7, by kernel_rfl, rfl⟩
/-- What was stored over a whole row reads back. -/
theorem cells_all {cs : List Value} {n : Nat} {g : Nat → Value} (hn : cs.length ≤ n) : ∀ j v, cs[j]? = some v → j < n ∧ (if 0 ≤ j ∧ j < 0 + cs.length then cs.getD (j - 0) undef else g j) = v := fun j v hj => by
  have := lt_cells hj
  refine ⟨by omega, ?_⟩
  rw [if_pos (by omega)]
  exact getD_cells hj
set_option maxRecDepth 100000 in
theorem ap_of (port : Int) (w : World) : Calls Yba.prog 6 #[.int .u16 port] w fun e w' => e = .returned (apV port) ∧ Below w.heap.size w w' := by
  refine enter (args := [.int .u16 port]) Yba.func6 rfl 6 Yba.ntmps6 rfl fun a hA => ?_
  refine sq ?_
  refine st hA (wn rfl) rfl rfl (x_alloc (mk_alloc _ al37 _)) fun a w1 hA m1 => ?_
  refine fin ?_
  refine sq ?_
  refine st0 hA (wn rfl) rfl rfl (x_build rfl (build35 _)) fun a hA => ?_
  refine st0 hA (wn rfl) rfl rfl (x_mv rfl) fun a hA => ?_
  refine st hA (wn rfl) rfl rfl (x_call (cap := []) rfl rfl c13 (from_any port w1)) fun a w2 hA b2 => ?_
  have r2 := m1.row.below b2 (by rw [m1.2.1]; omega)
  refine stn hA (wn rfl) rfl (x_store rfl rfl (r2.store (apC port) info37 rfl (Nat.le_refl _))) fun w3 ⟨u3, r3⟩ => ?_
  refine fin ?_
  refine wp_ret ?_
  refine rtc hA rfl rfl r3 (apC port) Yba.underlying37 rfl info37 (cells_all (Nat.le_refl _)) ⟨rfl, ?_⟩
  exact (m1.1.trans (b2.mono (by rw [m1.2.1]; omega))).trans (u3.below (Nat.le_refl _))

/-- The cells of a key of one byte. -/
def keyC (b : Int) : List Value := List.replicate 31 (.int .u8 0) ++ [.int .u8 b]
def keyV (b : Int) : Value := .agg (keyC b).toArray
theorem build40 (b : Int) (w : World) : (Instr.build 40 #[(31, .int .u8 b)]).run Yba.prog w = .ok (keyV b) w := by kernel_rfl
theorem keyC_len (b : Int) : (keyC b).length = 32 := by simp [keyC]
theorem keyC_one (b : Int) : (keyC b).all (·.oneCell') = true := by kernel_rfl
theorem apC_one (b : Int) : (apC b).all (·.oneCell') = true := by kernel_rfl
set_option maxRecDepth 100000 in
theorem key_any (b : Int) (w : World) : Calls Yba.prog 7 #[.int .u8 b] w fun e w' => e = .returned (keyV b) ∧ Below w.heap.size w w' := by
  refine enter (args := [.int .u8 b]) Yba.func7 rfl 5 Yba.ntmps7 rfl fun a hA => ?_
  refine sq ?_
  refine st hA (wn rfl) rfl rfl (x_alloc (mk_alloc _ al40 _)) fun a w1 hA m1 => ?_
  refine fin ?_
  refine sq ?_
  refine st0 hA (wn rfl) rfl rfl (x_mv rfl) fun a hA => ?_
  refine st0 hA (wn rfl) rfl rfl (x_build rfl (build40 _ _)) fun a hA => ?_
  refine stn hA (wn rfl) rfl (x_store rfl rfl (m1.row.store (keyC b) info40 (keyC_one b) (Nat.le_refl _))) fun w3 ⟨u3, r3⟩ => ?_
  refine fin ?_
  refine wp_ret ?_
  refine rtc hA rfl rfl r3 (keyC b) Yba.underlying40 rfl info40 (cells_all (Nat.le_refl _)) ⟨rfl, ?_⟩
  exact m1.1.trans (u3.below (Nat.le_refl _))
end Go.Proofs.Ybulkcrtu
