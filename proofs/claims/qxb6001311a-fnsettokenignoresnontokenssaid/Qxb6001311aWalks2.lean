import Derived.Test.Qxb6001311aWalks
namespace Go.Proofs.Qxb6001311a
open Go.RowKit

/-- All cells and marks that were there read as before. -/
theorem bcell {W w1 : World} (hb : Below W.heap.size W w1) : (∀ b o, b < W.heap.size → w1.cell? ⟨b, o, none⟩ = W.cell? ⟨b, o, none⟩) ∧ (∀ b o, b < W.heap.size → w1.frozen? ⟨b, o, none⟩ = W.frozen? ⟨b, o, none⟩) :=
  ⟨fun b o h => hb.cell (p := ⟨b, o, none⟩) h, fun b o h => hb.frozen (p := ⟨b, o, none⟩) h⟩

set_option maxHeartbeats 1000000 in
theorem zzSetToken_non (k0 : Int) (b1 : Bool) (k2 k3 : Int) (b4 b5 : Bool) (k6 k7 k8 k9 k10 : Int) (t : Int) (h0 : 0 ≤ t) (h1 : t ≤ 255) (hn : NonTok t) (w : World) :
    Calls Try.prog 23 #[.agg #[.int .i64 k0, .bool b1, .int .u64 k2, .int .i64 k3, .bool b4, .bool b5, .int .i64 k6, .int .i64 k7, .int .u8 k8, .int .i64 k9, .int .i64 k10], .int .u8 t] w fun e w' => e = .returned (.agg #[.int .i64 k0, .bool b1, .int .u64 k2, .int .i64 k3, .bool b4, .bool b5, .int .i64 k6, .int .i64 k7, .int .u8 k8, .int .i64 k9, .int .i64 k10]) ∧ Below w.heap.size w w' := by
  go_enter Try.func23, Try.ntmps23
  go_wp2_with fail
  refine (toBranch k0 b1 k2 k3 b4 b5 k6 k7 k8 k9 k10 _).mono ?_
  rintro e w1 ⟨rfl, hb1⟩
  obtain ⟨hc1, hf1⟩ := bcell hb1
  have hz1 : w.heap.size + 1 < w1.heap.size := by have := hb1.size; simp at this; omega
  go_wp2_with fail
  refine (setToken_non _ t h0 h1 hn _).mono ?_
  rintro e w2 ⟨rfl, rfl⟩
  go_wp2_with fail
  refine (fromBranch k0 b1 k2 k3 b4 b5 k6 k7 k8 k9 k10 _).mono ?_
  rintro e w3 ⟨rfl, hb3⟩
  obtain ⟨hc3, hf3⟩ := bcell hb3
  have hz3 : w1.heap.size < w3.heap.size := by have := hb3.size; simp at this; omega
  have hw : w.heap.size + 1 < w1.heap.size + 1 := by omega
  simp only [World.size_alloc] at hc3 hf3
  go_wp2_with fail
  have fin : Below w.heap.size w w3 := by
    have g1 : Below w.heap.size w w1 := (((Below.refl _ _).alloc (Nat.le_refl _) _).alloc (by simp) _).trans (hb1.mono (by simp; omega))
    have g2 := g1.alloc (by omega) (.cells #[.int .i64 k0, .bool b1, .int .u64 k2, .int .i64 k3, .bool b4, .bool b5, .int .i64 k6, .int .i64 k7, .int .u8 k8, .int .i64 k9, .int .i64 k10] 40)
    exact g2.trans (hb3.mono (by simp; omega))
  refine bodyPost_ret (v := .agg #[.int .i64 k0, .bool b1, .int .u64 k2, .int .i64 k3, .bool b4, .bool b5, .int .i64 k6, .int .i64 k7, .int .u8 k8, .int .i64 k9, .int .i64 k10]) ?_ rfl ⟨rfl, ?_⟩
  · clear fin hb1 hb3
    simp [results, Try.results23, go_sem, hc3, hc1, hz1, hw]
  · repeat (refine Below.setCell ?_ (by simp) _)
    exact fin

theorem eq47 (k0 : Int) (b1 : Bool) (k2 k3 : Int) (b4 b5 : Bool) (k6 k7 k8 k9 k10 : Int) (w : World) : (binOp .eql 47 (.agg #[.int .i64 k0, .bool b1, .int .u64 k2, .int .i64 k3, .bool b4, .bool b5, .int .i64 k6, .int .i64 k7, .int .u8 k8, .int .i64 k9, .int .i64 k10]) (.agg #[.int .i64 k0, .bool b1, .int .u64 k2, .int .i64 k3, .bool b4, .bool b5, .int .i64 k6, .int .i64 k7, .int .u8 k8, .int .i64 k9, .int .i64 k10])).run Try.prog w = .ok (.bool true) w := by
  go_simp

theorem keep11 (k0 : Int) (b1 : Bool) (k2 k3 : Int) (b4 b5 : Bool) (k6 k7 k8 k9 k10 : Int) (b : Nat) {W w2 : World} (h : W.cell? ⟨b, 0, none⟩ = some (.int .i64 k0) ∧ W.cell? ⟨b, 1, none⟩ = some (.bool b1) ∧ W.cell? ⟨b, 2, none⟩ = some (.int .u64 k2) ∧ W.cell? ⟨b, 3, none⟩ = some (.int .i64 k3) ∧ W.cell? ⟨b, 4, none⟩ = some (.bool b4) ∧ W.cell? ⟨b, 5, none⟩ = some (.bool b5) ∧ W.cell? ⟨b, 6, none⟩ = some (.int .i64 k6) ∧ W.cell? ⟨b, 7, none⟩ = some (.int .i64 k7) ∧ W.cell? ⟨b, 8, none⟩ = some (.int .u8 k8) ∧ W.cell? ⟨b, 9, none⟩ = some (.int .i64 k9) ∧ W.cell? ⟨b, 10, none⟩ = some (.int .i64 k10)) (hb : Below W.heap.size W w2) : w2.cell? ⟨b, 0, none⟩ = some (.int .i64 k0) ∧ w2.cell? ⟨b, 1, none⟩ = some (.bool b1) ∧ w2.cell? ⟨b, 2, none⟩ = some (.int .u64 k2) ∧ w2.cell? ⟨b, 3, none⟩ = some (.int .i64 k3) ∧ w2.cell? ⟨b, 4, none⟩ = some (.bool b4) ∧ w2.cell? ⟨b, 5, none⟩ = some (.bool b5) ∧ w2.cell? ⟨b, 6, none⟩ = some (.int .i64 k6) ∧ w2.cell? ⟨b, 7, none⟩ = some (.int .i64 k7) ∧ w2.cell? ⟨b, 8, none⟩ = some (.int .u8 k8) ∧ w2.cell? ⟨b, 9, none⟩ = some (.int .i64 k9) ∧ w2.cell? ⟨b, 10, none⟩ = some (.int .i64 k10) := by
  have e : ∀ j v, W.cell? ⟨b, j, none⟩ = some v → w2.cell? ⟨b, j, none⟩ = some v := fun j v hv => by
    rw [hb.cell (World.block_lt_of_cell? W _ hv)]
    exact hv
  obtain ⟨c0, c1, c2, c3, c4, c5, c6, c7, c8, c9, c10⟩ := h
  exact ⟨e _ _ c0, e _ _ c1, e _ _ c2, e _ _ c3, e _ _ c4, e _ _ c5, e _ _ c6, e _ _ c7, e _ _ c8, e _ _ c9, e _ _ c10⟩

set_option maxHeartbeats 1000000 in
theorem ignores (k0 : Int) (b1 : Bool) (k2 k3 : Int) (b4 b5 : Bool) (k6 k7 k8 k9 k10 : Int) (t : Int) (h0 : 0 ≤ t) (h1 : t ≤ 255) (w : World) :
    Calls Try.prog 7 #[.agg #[.int .i64 k0, .bool b1, .int .u64 k2, .int .i64 k3, .bool b4, .bool b5, .int .i64 k6, .int .i64 k7, .int .u8 k8, .int .i64 k9, .int .i64 k10], .int .u8 t] w fun e w' => e = .returned (.bool true) ∧ Below w.heap.size w w' := by
  go_enter Try.func7, Try.ntmps7
  go_wp2_with fail
  refine (starts_any t h0 h1 _).mono ?_
  rintro e w0 ⟨⟨b, rfl, hb⟩, rfl⟩
  cases b
  · have hn : NonTok t := hb rfl
    clear hb
    go_wp2_with fail
    refine (toShim k0 b1 k2 k3 b4 b5 k6 k7 k8 k9 k10 _).mono ?_
    rintro e w1 ⟨rfl, hb1⟩
    have g1 : Below w.heap.size w w1 := ((Below.refl _ _).alloc (Nat.le_refl _) _).trans (hb1.mono (by simp))
    clear hb1
    go_wp2_with fail
    have heq := eq47 k0 b1 k2 k3 b4 b5 k6 k7 k8 k9 k10
    go_region_held3 (fun w' => w'.cell? ⟨w1.heap.size, 0, none⟩ = some (.int .i64 k0) ∧ w'.cell? ⟨w1.heap.size, 1, none⟩ = some (.bool b1) ∧ w'.cell? ⟨w1.heap.size, 2, none⟩ = some (.int .u64 k2) ∧ w'.cell? ⟨w1.heap.size, 3, none⟩ = some (.int .i64 k3) ∧ w'.cell? ⟨w1.heap.size, 4, none⟩ = some (.bool b4) ∧ w'.cell? ⟨w1.heap.size, 5, none⟩ = some (.bool b5) ∧ w'.cell? ⟨w1.heap.size, 6, none⟩ = some (.int .i64 k6) ∧ w'.cell? ⟨w1.heap.size, 7, none⟩ = some (.int .i64 k7) ∧ w'.cell? ⟨w1.heap.size, 8, none⟩ = some (.int .u8 k8) ∧ w'.cell? ⟨w1.heap.size, 9, none⟩ = some (.int .i64 k9) ∧ w'.cell? ⟨w1.heap.size, 10, none⟩ = some (.int .i64 k10)) (first | exact keep11 k0 b1 k2 k3 b4 b5 k6 k7 k8 k9 k10 _ (by assumption) (by assumption) | (refine ⟨?_, ?_, ?_, ?_, ?_, ?_, ?_, ?_, ?_, ?_, ?_⟩ <;> go_simp))
      (first | (go_at_call 23; refine (zzSetToken_non k0 b1 k2 k3 b4 b5 k6 k7 k8 k9 k10 t h0 h1 hn _).mono ?_; rintro e w2 ⟨rfl, hb2⟩))
    go_wp2
    go_ret
    exact ⟨rfl, (g1.alloc g1.size _).drew.trans (hb2.mono (by show w.heap.size ≤ (w1.alloc _).heap.size; simp; have := g1.size; omega))⟩
  · go_wp2
    go_ret
    exact ⟨rfl, (Below.refl _ _).alloc (Nat.le_refl _) _⟩
end Go.Proofs.Qxb6001311a
