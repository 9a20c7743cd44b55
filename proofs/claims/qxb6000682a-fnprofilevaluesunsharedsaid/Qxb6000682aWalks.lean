import Derived.Test.Qxb6000682aRows
import Derived.WalkKit
import Derived.ProofKit
import Derived.Deep.RegionHeld3
import Derived.BigQuiet
import Derived.Deep.QuietTactic
namespace Go.Proofs.Qxb6000682a
open Go.RowKit

/-- Where 'orNull' points to: nowhere for the empty string, else to block b. -/
def po (s : ByteArray) (b : Nat) : Option Addr := if s.toList.isEmpty then none else some ⟨b, 0, none⟩

theorem po_some {s : ByteArray} {b : Nat} (h : s.toList.isEmpty = false) : po s b = some ⟨b, 0, none⟩ := by simp [po, h]
theorem po_none {s : ByteArray} {b : Nat} (h : s.toList.isEmpty = true) : po s b = none := by simp [po, h]

theorem po_isNone (s : ByteArray) (b : Nat) : (po s b).isNone = s.toList.isEmpty := by
  cases h : s.toList.isEmpty
  · rw [po_some h]; rfl
  · rw [po_none h]; rfl

theorem empty_of {s : ByteArray} (h : s.toList.isEmpty = true) : s = ⟨#[]⟩ := by
  have h2 : s.toList = [] := List.isEmpty_iff.1 h
  rw [ByteArray.toList_eq] at h2
  cases s with | mk d => cases d with | mk l => simp at h2; rw [h2]

theorem orNull_any (s : ByteArray) (w : World) :
    Calls Try.prog 12 #[.string s] w fun e w' => e = .returned (.pointer (po s w.heap.size)) ∧ w' = w.alloc (.cells #[.string s] 9) := by
  cases h : s.toList.isEmpty
  · rw [po_some h]
    go_enter Try.func12, Try.ntmps12
    go_wp2
    go_ret
    exact ⟨rfl, rfl⟩
  · rw [po_none h]
    go_enter Try.func12, Try.ntmps12
    go_wp2
    go_ret
    exact ⟨rfl, rfl⟩

theorem zzb_any (a0 a1 a2 a3 : ByteArray) (w0 : a0.size ≤ maxLen) (w1 : a1.size ≤ maxLen) (w2 : a2.size ≤ maxLen) (w3 : a3.size ≤ maxLen) (w : World) :
    Calls Try.prog 8 #[.string a0, .string a1, .string a2, .string a3] w fun e w' => (∃ b, e = .returned (.bool b)) ∧ w' = w := by
  unfold maxLen at *
  go_enter Try.func8, Try.ntmps8
  go_wp2
  all_goals (go_ret; exact ⟨⟨_, rfl⟩, rfl⟩)

theorem zzu_any (a0 a1 a2 a3 : ByteArray) (w0 : a0.size ≤ maxLen) (w1 : a1.size ≤ maxLen) (w2 : a2.size ≤ maxLen) (w3 : a3.size ≤ maxLen) (w : World) :
    Calls Try.prog 11 #[.string a0, .string a1, .string a2, .string a3] w fun e w' => (∃ b, e = .returned (.bool b)) ∧ w' = w := by
  unfold maxLen at *
  go_enter Try.func11, Try.ntmps11
  go_wp2
  all_goals (go_ret; exact ⟨⟨_, rfl⟩, rfl⟩)

/-- 'derefOr' at what 'orNull' handed back. -/
theorem deref_any (s : ByteArray) (n : Nat) (w : World) (hc : w.cell? ⟨n, 0, none⟩ = some (.string s)) :
    Calls Try.prog 10 #[.pointer (po s n)] w fun e w' => e = .returned (.string s) ∧ w' = w := by
  cases h : s.toList.isEmpty
  · rw [po_some h]
    clear h
    go_enter Try.func10, Try.ntmps10
    go_wp2
    go_ret
    exact ⟨rfl, rfl⟩
  · rw [po_none h, empty_of h]
    clear h
    go_enter Try.func10, Try.ntmps10
    go_wp2
    go_ret
    exact ⟨rfl, rfl⟩

/-- The four boxes lie one behind the other, from block n on, each with its string. -/
structure Lies (n : Nat) (a0 a1 a2 a3 : ByteArray) (w : World) : Prop where
  b0 : w.heap[n]? = some (.cells #[.string a0] 9)
  b1 : w.heap[n + 1]? = some (.cells #[.string a1] 9)
  b2 : w.heap[n + 2]? = some (.cells #[.string a2] 9)
  b3 : w.heap[n + 3]? = some (.cells #[.string a3] 9)

theorem box_cell {w : World} {b : Nat} {s : ByteArray} (h : w.heap[b]? = some (.cells #[.string s] 9)) : w.cell? ⟨b, 0, none⟩ = some (.string s) := by
  simp [World.cell?, h]
theorem box_frozen {w : World} {b : Nat} {s : ByteArray} (h : w.heap[b]? = some (.cells #[.string s] 9)) : w.frozen? ⟨b, 0, none⟩ = false := by
  simp [World.frozen?, h]
theorem Lies.c0 {n : Nat} {a0 a1 a2 a3 : ByteArray} {w : World} (h : Lies n a0 a1 a2 a3 w) : w.cell? ⟨n, 0, none⟩ = some (.string a0) := box_cell h.b0
theorem Lies.c1 {n : Nat} {a0 a1 a2 a3 : ByteArray} {w : World} (h : Lies n a0 a1 a2 a3 w) : w.cell? ⟨n + 1, 0, none⟩ = some (.string a1) := box_cell h.b1
theorem Lies.c2 {n : Nat} {a0 a1 a2 a3 : ByteArray} {w : World} (h : Lies n a0 a1 a2 a3 w) : w.cell? ⟨n + 2, 0, none⟩ = some (.string a2) := box_cell h.b2
theorem Lies.c3 {n : Nat} {a0 a1 a2 a3 : ByteArray} {w : World} (h : Lies n a0 a1 a2 a3 w) : w.cell? ⟨n + 3, 0, none⟩ = some (.string a3) := box_cell h.b3

theorem lies_mk (w : World) (n : Nat) (a0 a1 a2 a3 : ByteArray) (hn : n = w.heap.size) : Lies n a0 a1 a2 a3 ((((w.alloc (.cells #[.string a0] 9)).alloc (.cells #[.string a1] 9)).alloc (.cells #[.string a2] 9)).alloc (.cells #[.string a3] 9)).drew := by
  subst hn
  have e : ∀ k : Nat, ((((w.alloc (.cells #[.string a0] 9)).alloc (.cells #[.string a1] 9)).alloc (.cells #[.string a2] 9)).alloc (.cells #[.string a3] 9)).drew.heap[k]? = ((((w.heap.push (.cells #[.string a0] 9)).push (.cells #[.string a1] 9)).push (.cells #[.string a2] 9)).push (.cells #[.string a3] 9))[k]? := fun _ => rfl
  refine ⟨?_, ?_, ?_, ?_⟩ <;> rw [e] <;> simp only [Array.getElem?_push, Array.size_push] <;> repeat (first | rw [if_pos trivial] | rw [if_pos (by omega)] | rw [if_neg (by omega)])

theorem newPV (a0 a1 a2 a3 : ByteArray) (w : World) :
    Calls Try.prog 13 #[.agg #[.string a0, .string a1, .string a2, .string a3]] w fun e w' => ∃ n,
      e = .returned (.agg #[.pointer (po a0 n), .pointer (po a1 (n + 1)), .pointer (po a2 (n + 2)), .pointer (po a3 (n + 3))]) ∧ w.heap.size ≤ n ∧ Lies n a0 a1 a2 a3 w' ∧ Grown w w' := by
  go_enter Try.func13, Try.ntmps13
  go_wp2
  go_region_held3 (fun w' => w'.cell? ⟨w.heap.size, 0, none⟩ = some (.string a0) ∧ w'.cell? ⟨w.heap.size, 1, none⟩ = some (.string a1) ∧ w'.cell? ⟨w.heap.size, 2, none⟩ = some (.string a2) ∧ w'.cell? ⟨w.heap.size, 3, none⟩ = some (.string a3)) (first | (refine ⟨?_, ?_, ?_, ?_⟩ <;> go_simp))
    (first | (go_at_call 12; refine (orNull_any _ _).mono ?_; rintro e w' ⟨rfl, rfl⟩))
  go_wp2
  refine bodyPost_ret (v := .agg #[.pointer (po a0 (w.heap.size + 1 + 1)), .pointer (po a1 (w.heap.size + 1 + 1 + 1)), .pointer (po a2 (w.heap.size + 1 + 1 + 1 + 1)), .pointer (po a3 (w.heap.size + 1 + 1 + 1 + 1 + 1))]) (by simp [results, Try.results13, go_sem]) rfl ⟨w.heap.size + 1 + 1, rfl, by omega, ?_, ?_⟩
  · exact lies_mk _ _ _ _ _ _ (by simp)
  · repeat (first | exact Grown.refl _ | apply Grown.drew | apply Grown.alloc)

theorem grown_trans {W w1 w2 : World} (h : Grown W w1) (k : Grown w1 w2) : Grown W w2 :=
  ⟨World.keptBut_trans h.1 k.1, fun a => (k.2.1 a).trans (h.2.1 a), Nat.le_trans h.2.2 k.2.2⟩

theorem grown_drewN {W w1 : World} (h : Grown W w1) (k : Nat) : Grown W (w1.drewN k) := by
  exact h

theorem lies_alloc {n : Nat} {a0 a1 a2 a3 : ByteArray} {w : World} (h : Lies n a0 a1 a2 a3 w) (o : Obj) (k : Nat) : Lies n a0 a1 a2 a3 ((w.alloc o).drewN k) := by
  obtain ⟨c0, c1, c2, c3⟩ := h
  have e : ∀ (b : Nat) (x : Obj), w.heap[b]? = some x → ((w.alloc o).drewN k).heap[b]? = some x := fun b x hb => by
    show (w.heap.push o)[b]? = _
    have hlt : b < w.heap.size := by
      by_cases hh : b < w.heap.size
      · exact hh
      · rw [Array.getElem?_eq_none (by omega)] at hb; cases hb
    rw [Array.getElem?_push, if_neg (by omega), hb]
  exact ⟨e _ _ c0, e _ _ c1, e _ _ c2, e _ _ c3⟩

theorem zznew (a0 a1 a2 a3 : ByteArray) (w : World) :
    Calls Try.prog 9 #[.string a0, .string a1, .string a2, .string a3] w fun e w' => ∃ n,
      e = .returned (.tuple #[.pointer (po a0 n), .pointer (po a1 (n + 1)), .pointer (po a2 (n + 2)), .pointer (po a3 (n + 3))]) ∧ w.heap.size ≤ n ∧ Lies n a0 a1 a2 a3 w' ∧ Grown w w' := by
  go_enter Try.func9, Try.ntmps9
  go_wp2_with fail
  refine (newPV a0 a1 a2 a3 _).mono ?_
  rintro e w1 ⟨n, rfl, hn, hl, hg⟩
  go_wp2
  go_quiet (fail)
  go_wp2
  refine bodyPost_ret (v := .tuple #[.pointer (po a0 n), .pointer (po a1 (n + 1)), .pointer (po a2 (n + 2)), .pointer (po a3 (n + 3))]) (by simp [results, Try.results9, go_sem]) rfl ⟨n, rfl, hn, ?_, ?_⟩
  · exact lies_alloc hl _ _
  · exact grown_drewN (hg.alloc _ _) _

set_option maxHeartbeats 400000 in
theorem roundTrip (a0 a1 a2 a3 : ByteArray) (w0 : a0.size ≤ maxLen) (w1 : a1.size ≤ maxLen) (w2 : a2.size ≤ maxLen) (w3 : a3.size ≤ maxLen) (w : World) :
    Calls Try.prog 4 #[.string a0, .string a1, .string a2, .string a3] w fun e w' => e = .returned (.bool true) ∧ Grown w w' := by
  go_enter Try.func4, Try.ntmps4
  go_wp2_with fail
  refine (zzb_any a0 a1 a2 a3 w0 w1 w2 w3 _).mono ?_
  rintro e w1 ⟨⟨b, rfl⟩, rfl⟩
  cases b
  · go_wp2
    go_ret
    exact ⟨rfl, Grown.refl _⟩
  by_cases h0 : 262144 < a0.size
  · go_wp2
    go_ret
    exact ⟨rfl, Grown.refl _⟩
  by_cases h1 : 262144 < a1.size
  · go_wp2
    go_ret
    exact ⟨rfl, Grown.refl _⟩
  by_cases h2 : 262144 < a2.size
  · go_wp2
    go_ret
    exact ⟨rfl, Grown.refl _⟩
  by_cases h3 : 262144 < a3.size
  · go_wp2
    go_ret
    exact ⟨rfl, Grown.refl _⟩
  go_wp2_with fail
  refine (zznew a0 a1 a2 a3 _).mono ?_
  rintro e w1 ⟨n, rfl, hn, hl, hg⟩
  have hz0 := po_isNone a0 n
  have hz1 := po_isNone a1 (n + 1)
  have hz2 := po_isNone a2 (n + 2)
  have hz3 := po_isNone a3 (n + 3)
  go_wp2_with (first
    | (go_at_call_of 10 a0; refine (deref_any a0 n _ hl.c0).mono ?_; rintro e w' ⟨rfl, rfl⟩)
    | (go_at_call_of 10 a1; refine (deref_any a1 (n + 1) _ hl.c1).mono ?_; rintro e w' ⟨rfl, rfl⟩)
    | (go_at_call_of 10 a2; refine (deref_any a2 (n + 2) _ hl.c2).mono ?_; rintro e w' ⟨rfl, rfl⟩)
    | (go_at_call_of 10 a3; refine (deref_any a3 (n + 3) _ hl.c3).mono ?_; rintro e w' ⟨rfl, rfl⟩))
  go_ret
  exact ⟨rfl, hg⟩
end Go.Proofs.Qxb6000682a
