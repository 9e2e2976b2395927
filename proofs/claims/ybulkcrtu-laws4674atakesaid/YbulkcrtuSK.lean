import Derived.Test.YbulkcrtuSJ
namespace Go.Proofs.Ybulkcrtu
open Go.RowKit

/-! ### A drawn region whose writers come one behind the other -/
def posOf : List Nat → Nat → Option Nat
  | [], _ => none
  | k :: r, i => bif Nat.beq k i then some 0 else (posOf r i).map (· + 1)
def cnt (L : Nat → Bool) : List Nat → Nat
  | [] => 0
  | k :: r => (bif L k then 1 else 0) + cnt L r
def chainB (ops : List Oper) : List Nat → Bool
  | [] => true
  | k :: r => (r.all fun m => reach ops 6 m k && !(Nat.beq m k)) && chainB ops r
theorem posOf_some : ∀ {ws : List Nat} {i j : Nat}, posOf ws i = some j → ∃ pre post, ws = pre ++ i :: post ∧ pre.length = j
  | [], _, _, h => by simp [posOf] at h
  | k :: r, i, j, h => by
    unfold posOf at h
    cases hb : Nat.beq k i with
    | true =>
      rw [hb] at h
      simp at h
      obtain rfl := Nat.eq_of_beq_eq_true hb
      exact ⟨[], r, rfl, h⟩
    | false =>
      rw [hb] at h
      simp only [cond_false, Option.map_eq_some_iff] at h
      obtain ⟨m, hm, rfl⟩ := h
      obtain ⟨pre, post, h1, h2⟩ := posOf_some hm
      exact ⟨k :: pre, post, by rw [h1]; rfl, by simp [h2]⟩
theorem posOf_none : ∀ {ws : List Nat} {i : Nat}, posOf ws i = none → i ∉ ws
  | [], _, _ => by simp
  | k :: r, i, h => by
    unfold posOf at h
    cases hb : Nat.beq k i with
    | true => rw [hb] at h; simp at h
    | false =>
      rw [hb] at h
      simp only [cond_false, Option.map_eq_none_iff] at h
      have := posOf_none h
      have hne : ¬ k = i := by intro e; subst e; simp at hb
      simp only [List.mem_cons, not_or]
      exact ⟨fun e => hne e.symm, this⟩
theorem cnt_append (L : Nat → Bool) : ∀ (a b : List Nat), cnt L (a ++ b) = cnt L a + cnt L b
  | [], b => by simp [cnt]
  | k :: r, b => by simp [cnt, cnt_append L r b]; omega
theorem cnt_true {L : Nat → Bool} : ∀ {a : List Nat}, (∀ k ∈ a, L k = true) → cnt L a = a.length
  | [], _ => rfl
  | k :: r, h => by
    simp only [cnt, h k List.mem_cons_self, cond_true, List.length_cons]
    rw [cnt_true (fun m hm => h m (List.mem_cons_of_mem _ hm))]
    omega
theorem cnt_false {L : Nat → Bool} : ∀ {a : List Nat}, (∀ k ∈ a, L k = false) → cnt L a = 0
  | [], _ => rfl
  | k :: r, h => by
    simp only [cnt, h k List.mem_cons_self, cond_false]
    rw [cnt_false (fun m hm => h m (List.mem_cons_of_mem _ hm))]
theorem cnt_congr {L L' : Nat → Bool} : ∀ {a : List Nat}, (∀ k ∈ a, L k = L' k) → cnt L a = cnt L' a
  | [], _ => rfl
  | k :: r, h => by
    simp only [cnt, h k List.mem_cons_self]
    rw [cnt_congr (fun m hm => h m (List.mem_cons_of_mem _ hm))]
theorem chain_spec {ops : List Oper} : ∀ {pre : List Nat} {i : Nat} {post : List Nat}, chainB ops (pre ++ i :: post) = true → (∀ k ∈ pre, reach ops 6 i k = true ∧ i ≠ k) ∧ (∀ m ∈ post, reach ops 6 m i = true ∧ m ≠ i)
  | [], i, post, h => by
    simp only [List.nil_append, chainB, Bool.and_eq_true, List.all_eq_true] at h
    refine ⟨fun k hk => (by cases hk), fun m hm => ⟨(h.1 m hm).1, ?_⟩⟩
    intro e
    subst e
    have := (h.1 m hm).2
    simp at this
  | k :: pre, i, post, h => by
    simp only [List.cons_append, chainB, Bool.and_eq_true, List.all_eq_true] at h
    obtain ⟨h1, h2⟩ := h
    obtain ⟨h3, h4⟩ := chain_spec h2
    refine ⟨fun m hm => ?_, h4⟩
    rcases List.mem_cons.1 hm with rfl | hm
    · have := h1 i (by simp)
      refine ⟨this.1, fun e => ?_⟩
      subst e
      simp at this
    · exact h3 m hm
theorem reach_dep {ops : List Oper} {L : Nat → Bool} {i : Nat} (hdep : ∀ j, waits? .any ops.toArray i j = true → L j = true) (hcl : ∀ m j, L m = true → waits? .any ops.toArray m j = true → L j = true) : ∀ (f k : Nat), reach ops f i k = true → L k = true
  | 0, _, h => by simp [reach] at h
  | f + 1, k, h => by
    unfold reach at h
    rw [Bool.or_eq_true] at h
    rcases h with h | h
    · exact hdep k h
    · rw [List.any_eq_true] at h
      obtain ⟨j, _, hj⟩ := h
      rw [Bool.and_eq_true] at hj
      exact reach_listed hcl f j k hj.2 (hdep j hj.1)
def DoP (ops : List Oper) (vals : List Value) (l0 : List (Nat × Value)) (ws : List Nat) (Ph : Nat → World → Prop) (i : Nat) : Prop :=
  match posOf ws i with
  | some j => Do ops vals l0 (Ph j) (Ph (j + 1)) i
  | none => ∀ p, Do ops vals l0 (Ph p) (Ph p) i
theorem drawn_ph {ops : List Oper} {Q : Exit → Act → World → Prop} {a : Act} {w : World} {N id : Nat} {l0 : List (Nat × Value)} (vals : List Value) (ws : List Nat) (Ph : Nat → World → Prop) (hA : At a N l0)
    (hm : Yba.prog.follows .mixedOrders = true) (hck : ckDst N ops (l0.map (·.1)) = true) (hch : chainB ops ws = true) (hwl : (ws.all fun k => Nat.blt k ops.length) = true) (h0 : Ph 0 w.drew) (hob : Each (DoP ops vals l0 ws Ph) 0 ops.length)
    (hend : ∀ a w', At a N (outs ops vals ++ l0) → Ph ws.length w' → Q .normal a w') : (Code.region id ops.toArray true).wp Yba.prog Q a w := by
  refine drawn vals (fun L w => Ph (cnt L ws) w) hA hm hck (by rw [cnt_false (fun _ _ => rfl)]; exact h0) ?_ (fun a w' ha L hL hS => hend a w' ha ?_)
  · have : ∀ n i, i + n = ops.length → Each (Ob ops vals l0 (fun L w => Ph (cnt L ws) w)) i n := by
      intro n
      induction n with
      | zero => intro i _; trivial
      | succ n ih =>
        refine fun i hi => ⟨fun L hL hdep hcl w hS o ho => ?_, ih (i + 1) (by omega)⟩
        have hd := each_all hob i (Nat.zero_le _) (by omega)
        unfold DoP at hd
        cases hp : posOf ws i with
        | none =>
          rw [hp] at hd
          have hni := posOf_none hp
          have e : cnt (fun j => if j = i then true else L j) ws = cnt L ws := cnt_congr fun k hk => by
            have : k ≠ i := fun e => hni (e ▸ hk)
            rw [if_neg this]
          obtain ⟨ks, h1, h2⟩ := hd _ w hS o ho
          refine ⟨ks, h1, ?_⟩
          simp only [e]
          exact h2
        | some j =>
          rw [hp] at hd
          obtain ⟨pre, post, hws, hj⟩ := posOf_some hp
          rw [hws] at hch
          obtain ⟨c1, c2⟩ := chain_spec hch
          have hpre : ∀ k ∈ pre, L k = true := fun k hk => reach_dep hdep hcl 6 k (c1 k hk).1
          have hpost : ∀ m ∈ post, L m = false := fun m hm => by
            cases hh : L m with
            | false => rfl
            | true =>
              have := reach_listed hcl 6 m i (c2 m hm).1 hh
              rw [hL] at this
              cases this
          have e1 : cnt L ws = j := by
            rw [hws, cnt_append, cnt_true hpre, cnt, hL, cnt_false hpost, hj]
            rfl
          have e2 : cnt (fun j => if j = i then true else L j) ws = j + 1 := by
            rw [hws, cnt_append, cnt_true, cnt, cnt_false, hj]
            · simp
            · intro m hm
              rw [if_neg (c2 m hm).2]
              exact hpost m hm
            · intro k hk
              rw [if_neg (fun e => (c1 k hk).2 e.symm)]
              exact hpre k hk
          have hS' : Ph j w := by rw [← e1]; exact hS
          obtain ⟨ks, h1, h2⟩ := hd w hS' o ho
          refine ⟨ks, h1, ?_⟩
          simp only [e2]
          exact h2
    exact this _ 0 (by omega)
  · have e : cnt L ws = ws.length := cnt_true fun k hk => hL k (by
      rw [List.all_eq_true] at hwl
      have := hwl k hk
      simp [Nat.blt] at this
      omega)
    have hS' : Ph (cnt L ws) w' := hS
    rwa [e] at hS'
section
variable {ops : List Oper} {vals : List Value} {l0 : List (Nat × Value)} {ws : List Nat} {Ph : Nat → World → Prop} {i : Nat} {o : Oper}
/-- It leaves the world. -/
theorem dp0 (hp : posOf ws i = none) (ho : ops[i]? = some o) (ks : List (Nat × Nat)) (hck : ckDeps ops i ks = true) (hw : Wants ops.toArray (kn vals ks l0) o) (hgo : ∀ p w, Ph p w → Goes (kn vals ks l0) o w (vals.getD i undef) (· = w)) : DoP ops vals l0 ws Ph i := by
  unfold DoP
  rw [hp]
  exact fun p => do0 ho ks hck hw (hgo p)
theorem dps (hp : posOf ws i = none) (ho : ops[i]? = some o) (ks : List (Nat × Nat)) (hck : ckDeps ops i ks = true) (hw : Shuns ops.toArray (kn vals ks l0) o) (hv : vals.getD i undef = undef) : DoP ops vals l0 ws Ph i := by
  unfold DoP
  rw [hp]
  exact fun p => dos ho ks hck hw hv
theorem dp1 {j : Nat} (hp : posOf ws i = some j) (ho : ops[i]? = some o) (ks : List (Nat × Nat)) (hck : ckDeps ops i ks = true) (hw : Wants ops.toArray (kn vals ks l0) o) (hgo : ∀ w, Ph j w → Goes (kn vals ks l0) o w (vals.getD i undef) (Ph (j + 1))) : DoP ops vals l0 ws Ph i := by
  unfold DoP
  rw [hp]
  exact do1 ho ks hck hw hgo
end
end Go.Proofs.Ybulkcrtu
