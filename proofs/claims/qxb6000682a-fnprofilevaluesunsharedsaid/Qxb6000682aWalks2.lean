import Derived.Test.Qxb6000682aWalks
import Derived.LaidEqlPtr
namespace Go.Proofs.Qxb6000682a
open Go.RowKit

/-- Four blocks from n on, each a box of a string. -/
def Boxes (n : Nat) (w : World) : Prop := ∀ i, i < 4 → ∃ s : ByteArray, w.heap[n + i]? = some (.cells #[.string s] 9)

theorem Lies.boxes {n : Nat} {a0 a1 a2 a3 : ByteArray} {w : World} (h : Lies n a0 a1 a2 a3 w) : Boxes n w := fun i hi => by
  match i, hi with
  | 0, _ => exact ⟨_, h.b0⟩
  | 1, _ => exact ⟨_, h.b1⟩
  | 2, _ => exact ⟨_, h.b2⟩
  | 3, _ => exact ⟨_, h.b3⟩

theorem Boxes.set {n b : Nat} {w : World} (h : Boxes n w) (t : ByteArray) : Boxes n (w.setCell ⟨b, 0, none⟩ (.string t)) := fun i hi => by
  obtain ⟨s, hs⟩ := h i hi
  by_cases e : b = n + i
  · subst e
    refine ⟨t, ?_⟩
    simp only [World.setCell, Array.getElem?_modify, hs]
    simp
  · refine ⟨s, ?_⟩
    simp only [World.setCell, Array.getElem?_modify, hs]
    rw [if_neg e]

theorem eql_boxes {n : Nat} {w : World} (h : Boxes n w) (i j : Nat) (hi : i < 4) (hj : j < 4) (hij : i ≠ j) (s : ByteArray) :
    (binOp .eql 23 (.pointer (some ⟨n + i, 0, none⟩)) (.pointer (po s (n + j)))).run Try.prog w = .ok (.bool false) w := by
  cases e : s.toList.isEmpty
  · rw [po_some e]
    obtain ⟨s1, h1⟩ := h i hi
    obtain ⟨s2, h2⟩ := h j hj
    have hne : (⟨n + i, 0, none⟩ : Addr) ≠ ⟨n + j, 0, none⟩ := fun h => hij (by have := congrArg Addr.block h; simpa using this)
    exact run_eql_ptr_other w (te := 9) Try.underlying23 (by rfl) (by decide) hne h1 h2
  · rw [po_none e]
    exact run_eql_pointer_nil w 23 _ (by kernel_rfl)


theorem Boxes.frozen {n : Nat} {w : World} (h : Boxes n w) (i : Nat) (hi : i < 4) : w.frozen? ⟨n + i, 0, none⟩ = false := by
  obtain ⟨s, hs⟩ := h i hi
  exact box_frozen hs

theorem Boxes.cell {n : Nat} {w : World} (h : Boxes n w) (i : Nat) (hi : i < 4) : ∃ s : ByteArray, w.cell? ⟨n + i, 0, none⟩ = some (.string s) := by
  obtain ⟨s, hs⟩ := h i hi
  exact ⟨s, box_cell hs⟩

theorem cell_set {w : World} {b c : Nat} {v x : Value} (h : w.cell? ⟨c, 0, none⟩ = some v) (hne : b ≠ c) : (w.setCell ⟨b, 0, none⟩ x).cell? ⟨c, 0, none⟩ = some v := by
  rw [World.cell?_setCell_far _ _ _ _ hne]
  exact h


set_option maxHeartbeats 2000000 in
theorem unshared (a0 a1 a2 a3 : ByteArray) (w0 : a0.size ≤ maxLen) (w1 : a1.size ≤ maxLen) (w2 : a2.size ≤ maxLen) (w3 : a3.size ≤ maxLen) (w : World) :
    Calls Try.prog 5 #[.string a0, .string a1, .string a2, .string a3] w fun e w' => e = .returned (.bool true) ∧ Grown w w' := by
  go_enter Try.func5, Try.ntmps5
  go_wp2_with fail
  refine (zzu_any a0 a1 a2 a3 w0 w1 w2 w3 _).mono ?_
  rintro e w1 ⟨⟨b, rfl⟩, rfl⟩
  cases b
  · go_wp2
    go_ret
    exact ⟨rfl, Grown.refl _⟩
  by_cases h0 : 262144 < a0.size
  · go_wp2
    go_ret
    exact ⟨rfl, Grown.refl _⟩
  by_cases h1 : 262144 < a1.size
  · go_wp2
    go_ret
    exact ⟨rfl, Grown.refl _⟩
  by_cases h2 : 262144 < a2.size
  · go_wp2
    go_ret
    exact ⟨rfl, Grown.refl _⟩
  by_cases h3 : 262144 < a3.size
  · go_wp2
    go_ret
    exact ⟨rfl, Grown.refl _⟩
  go_wp2_with fail
  refine (zznew a0 a1 a2 a3 _).mono ?_
  rintro e W0 ⟨n, rfl, hn, hl, hg⟩
  have c1 := hl.c1
  have c2 := hl.c2
  have c3 := hl.c3
  have hB := hl.boxes
  cases e0 : a0.toList.isEmpty
  case' false =>
    have hp0 : po a0 n = some ⟨n, 0, none⟩ := po_some e0
    have c0 := hl.c0
    have f0 := hB.frozen 0 (by omega)
    have q01 := eql_boxes hB 0 1 (by omega) (by omega) (by omega) a1
    have q02 := eql_boxes hB 0 2 (by omega) (by omega) (by omega) a2
    have q03 := eql_boxes hB 0 3 (by omega) (by omega) (by omega) a3
    simp only [Nat.add_zero] at f0 q01 q02 q03
    go_wp2_with fail
    replace c1 := cell_set (b := n) (x := .string ⟨#[0, 119]⟩) c1 (by omega)
    replace c2 := cell_set (b := n) (x := .string ⟨#[0, 119]⟩) c2 (by omega)
    replace c3 := cell_set (b := n) (x := .string ⟨#[0, 119]⟩) c3 (by omega)
    replace hB : Boxes n (W0.setCell ⟨n, 0, none⟩ (.string ⟨#[0, 119]⟩)) := hB.set _
    replace hg : Grown _ (W0.setCell ⟨n, 0, none⟩ (.string ⟨#[0, 119]⟩)) := hg.setCell hn _
    clear c0 hl f0 q01 q02 q03 hp0
    generalize W0.setCell ⟨n, 0, none⟩ (.string ⟨#[0, 119]⟩) = W1 at *
  case' true =>
    have hp0 : po a0 n = none := po_none e0
    go_wp2_with fail
    clear hp0 hl
    generalize W0 = W1 at *
  all_goals
    refine (deref_any a1 (n + 1) _ c1).mono ?_
    rintro e wx ⟨rfl, rfl⟩
    go_wp2_with fail
    refine (deref_any a2 (n + 2) _ c2).mono ?_
    rintro e wx ⟨rfl, rfl⟩
    go_wp2_with fail
    refine (deref_any a3 (n + 3) _ c3).mono ?_
    rintro e wx ⟨rfl, rfl⟩
    clear c1
    cases e1 : a1.toList.isEmpty
    case' false =>
      have hp1 : po a1 (n + 1) = some ⟨n + 1, 0, none⟩ := po_some e1
      obtain ⟨s1, c1⟩ := hB.cell 1 (by omega)
      have f1 := hB.frozen 1 (by omega)
      have q12 := eql_boxes hB 1 2 (by omega) (by omega) (by omega) a2
      have q13 := eql_boxes hB 1 3 (by omega) (by omega) (by omega) a3
      go_wp2_with fail
      replace c2 := cell_set (b := n + 1) (x := .string ⟨#[0, 119]⟩) c2 (by omega)
      replace c3 := cell_set (b := n + 1) (x := .string ⟨#[0, 119]⟩) c3 (by omega)
      replace hB := hB.set (b := n + 1) ⟨#[0, 119]⟩
      replace hg := hg.setCell (a := ⟨n + 1, 0, none⟩) (by show _ ≤ n + 1; omega) (.string ⟨#[0, 119]⟩)
      clear c1 f1 q12 q13 hp1
    case' true =>
      have hp1 : po a1 (n + 1) = none := po_none e1
      go_wp2_with fail
      clear hp1
    all_goals
      refine (deref_any a2 (n + 2) _ c2).mono ?_
      rintro e wy ⟨rfl, rfl⟩
      go_wp2_with fail
      refine (deref_any a3 (n + 3) _ c3).mono ?_
      rintro e wy ⟨rfl, rfl⟩
      clear c2
      cases e2 : a2.toList.isEmpty
      case' false =>
        have hp2 : po a2 (n + 2) = some ⟨n + 2, 0, none⟩ := po_some e2
        obtain ⟨s2, c2⟩ := hB.cell 2 (by omega)
        have f2 := hB.frozen 2 (by omega)
        have q23 := eql_boxes hB 2 3 (by omega) (by omega) (by omega) a3
        go_wp2_with fail
        replace c3 := cell_set (b := n + 2) (x := .string ⟨#[0, 119]⟩) c3 (by omega)
        replace hg := hg.setCell (a := ⟨n + 2, 0, none⟩) (by show _ ≤ n + 2; omega) (.string ⟨#[0, 119]⟩)
        clear c2 f2 q23 hp2
      case' true =>
        have hp2 : po a2 (n + 2) = none := po_none e2
        go_wp2_with fail
        clear hp2
      all_goals
        refine (deref_any a3 (n + 3) _ c3).mono ?_
        rintro e wz ⟨rfl, rfl⟩
        go_wp2
        go_ret
        exact ⟨rfl, hg⟩
end Go.Proofs.Qxb6000682a
