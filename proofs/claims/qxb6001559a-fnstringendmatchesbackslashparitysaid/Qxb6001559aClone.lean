import Derived.Test.Qxb6001559aRows
import Derived.WalkKit
import Derived.ProofKit
import Derived.WalkSpells
import Derived.BigQuiet
import Derived.Deep.QuietTactic
namespace Go.Proofs.Qxb6001559a
open Go.RowKit

/-- The bytes ys lie where a leads to (nothing is said of a where there are none). -/
def Row8 (w : World) (a : Option Addr) (ys : List Int) : Prop :=
  ys = [] ∨ ∃ b off, a = some ⟨b, off, none⟩ ∧ ∀ i, i < ys.length → w.cell? ⟨b, off + i, none⟩ = some (.int .u8 (ys.getD i 0))

theorem Row8.below {w w' : World} {a : Option Addr} {ys : List Int} (h : Row8 w a ys) (hb : Below w.heap.size w w') : Row8 w' a ys := by
  rcases h with h | ⟨b, off, ha, hc⟩
  · exact .inl h
  · refine .inr ⟨b, off, ha, fun i hi => ?_⟩
    have h1 := hc i hi
    rw [hb.cell (World.block_lt_of_cell? w _ h1)]
    exact h1

/-- What holds at the head of round k of the copying loop. -/
structure CRel (w wr : World) (n k : Nat) (ys : List Int) : Prop where
  done : ∀ j, j < k → wr.cell? ⟨w.heap.size, j, none⟩ = some (.int .u8 (ys.getD j 0))
  todo : ∀ j, j < n → ∃ v, wr.cell? ⟨w.heap.size, j, none⟩ = some v
  free : ∀ j, wr.frozen? ⟨w.heap.size, j, none⟩ = false
  bel : Below w.heap.size w wr

theorem CRel.start (w : World) (n : Nat) (ys : List Int) : CRel w (w.alloc (.cells (madeCells #[.int .u8 0] n) 5)) n 0 ys where
  done := fun j hj => by omega
  todo := fun j hj => by
    rw [World.cell?_alloc_new]
    have : j < (madeCells #[.int .u8 0] n).size := by rw [size_madeCells]; exact hj
    exact ⟨_, Array.getElem?_eq_getElem this⟩
  free := fun j => by
    rw [frozen?_alloc_cells]
    simp [World.frozen?]
  bel := (Below.refl _ _).alloc (Nat.le_refl _) _

theorem CRel.next {w wr : World} {n k : Nat} {ys : List Int} (h : CRel w wr n k ys) (hk : k < n) : CRel w (wr.setCell ⟨w.heap.size, k, none⟩ (.int .u8 (ys.getD k 0))) n (k + 1) ys where
  done := fun j hj => by
    by_cases e : j = k
    · subst e
      obtain ⟨v, hv⟩ := h.todo j hk
      exact World.cell?_setCell_same _ _ _ hv
    · rw [World.cell?_setCell_other _ _ _ _ (fun e' => e (by have := congrArg Addr.off e'; simp at this; omega))]
      exact h.done j (by omega)
  todo := fun j hj => by
    by_cases e : j = k
    · subst e
      obtain ⟨v, hv⟩ := h.todo j hk
      exact ⟨_, World.cell?_setCell_same _ _ _ hv⟩
    · rw [World.cell?_setCell_other _ _ _ _ (fun e' => e (by have := congrArg Addr.off e'; simp at this; omega))]
      exact h.todo j hj
  free := fun j => by
    rw [World.frozen?_setCell]
    exact h.free j
  bel := h.bel.setCell (Nat.le_refl _) _

theorem Try.info5 : (Try.prog.info? 5).map (fun i => (i.zero, i.size, i.bytes)) = some (some (.int .u8 0), 1, 1) := by kernel_rfl

theorem make8 (n : Nat) (hn : n ≤ 1048576) (w : World) :
    (Instr.makeSlice 22 (.int .i64 n) (.int .i64 n)).run Try.prog w = .ok (.slice (some ⟨w.heap.size, 0, none⟩) n n) (w.alloc (.cells (madeCells #[.int .u8 0] n) 5)) := by
  obtain ⟨i, hi, hz0, hz1, hz2⟩ := info_parts Try.info5
  have h := run_make (P := Try.prog) w 22 5 i (.int .u8 0) Try.underlying22 hi hz0 .i64 .i64 n n (by omega) (by omega) (by rw [hz2]; omega) (by omega)
  rw [h, hz1]
  simp [Value.cells]

set_option maxHeartbeats 400000 in
theorem clone_any (a : Option Addr) (n cap : Nat) (ys : List Int) (w : World) (hn : n ≤ 1048576) (hy : ys.length = n) (ha : a = none → n = 0) (hr : Row8 w a ys) :
    Calls Try.prog 6 #[.slice a n cap] w fun e w' => ∃ a', e = .returned (.slice a' n n) ∧ (a' = none → n = 0) ∧ Row8 w' a' ys ∧ Below w.heap.size w w' := by
  have q22 : ∀ (w : World) (a : Option Addr) (n c n' c' : Nat), (binOp .eql 22 (.slice a n c) (.slice none n' c')).run Try.prog w = .ok (.bool a.isNone) w := fun w a n c n' c' => Lib.run_eql_slice_nil w _ _ a n c n' c' Try.underlying22
  cases a with
  | none =>
    obtain rfl := ha rfl
    go_enter Try.func6, Try.ntmps6
    go_wp2
    go_ret
    exact ⟨none, rfl, .inl (List.eq_nil_of_length_eq_zero hy), Below.refl _ _⟩
  | some x =>
    have hmk := make8 n hn w
    go_enter Try.func6, Try.ntmps6
    go_wp2
    go_loopw [4] (fun i wr => ∃ k : Nat, k ≤ n ∧ i = .int .i64 k ∧ CRel w wr n k ys) (fun i _ => n - (intOf i).toNat)
    case atStart => exact ⟨0, Nat.zero_le _, rfl, CRel.start w n ys⟩
    case round =>
      obtain ⟨k, hk, rfl, hC⟩ := hrel
      by_cases hlt : k < n
      · rcases hr with h | ⟨b, off, hx, hc⟩
        · exfalso
          rw [h] at hy
          simp at hy
          omega
        · obtain rfl : x = ⟨b, off, none⟩ := by simpa using hx
          have h1 := hc k (by omega)
          have h2 : wr.cell? ⟨b, off + k, none⟩ = some (.int .u8 (ys.getD k 0)) := by
            rw [hC.bel.cell (World.block_lt_of_cell? w _ h1)]
            exact h1
          obtain ⟨v, h3⟩ := hC.todo k hlt
          have h4 := hC.free k
          have R := hC.next hlt
          have hky : k < ys.length := by omega
          have e : ys.getD k 0 = ys[k] := by simp [hky]
          rw [e] at R h2
          clear h1 hx hmk e
          go_wp2
          exact ⟨⟨k + 1, by omega, by go_num, R⟩, by simp [intOf]; omega⟩
      · have hkn : k = n := by omega
        subst hkn
        clear hmk
        go_wp2
        go_ret
        exact ⟨_, rfl, by simp, .inr ⟨_, 0, rfl, fun i hi => by rw [Nat.zero_add]; exact hC.done i (by omega)⟩, hC.bel⟩
end Go.Proofs.Qxb6001559a
