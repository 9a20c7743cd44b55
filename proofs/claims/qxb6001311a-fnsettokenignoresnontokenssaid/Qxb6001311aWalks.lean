import Derived.Test.Qxb6001311aRows
import Derived.WalkKit
import Derived.ProofKit
import Derived.Deep.RegionHeld3
namespace Go.Proofs.Qxb6001311a
open Go.RowKit

/-- t starts no branch. -/
def NonTok (t : Int) : Prop := t = 0 ∨ t = 10 ∨ t = 20 ∨ t = 29 ∨ 31 ≤ t

theorem starts_any (t : Int) (h0 : 0 ≤ t) (h1 : t ≤ 255) (w : World) :
    Calls Try.prog 21 #[.int .u8 t] w fun e w' => (∃ b, e = .returned (.bool b) ∧ (b = false → NonTok t)) ∧ w' = w := by
  have hp : t = 0 ∨ (1 ≤ t ∧ t ≤ 9) ∨ t = 10 ∨ (11 ≤ t ∧ t ≤ 19) ∨ t = 20 ∨ (21 ≤ t ∧ t ≤ 28) ∨ t = 29 ∨ t = 30 ∨ 31 ≤ t := by omega
  rcases hp with rfl | ⟨p1, p2⟩ | rfl | ⟨p1, p2⟩ | rfl | ⟨p1, p2⟩ | rfl | rfl | p
  · go_enter Try.func21, Try.ntmps21
    go_wp2
    go_ret
    exact ⟨⟨_, rfl, fun _ => .inl rfl⟩, rfl⟩
  · go_enter Try.func21, Try.ntmps21
    go_wp2
    go_ret
    exact ⟨⟨true, rfl, fun h => by cases h⟩, rfl⟩
  · go_enter Try.func21, Try.ntmps21
    go_wp2
    go_ret
    exact ⟨⟨_, rfl, fun _ => .inr (.inl rfl)⟩, rfl⟩
  · go_enter Try.func21, Try.ntmps21
    go_wp2
    go_ret
    exact ⟨⟨true, rfl, fun h => by cases h⟩, rfl⟩
  · go_enter Try.func21, Try.ntmps21
    go_wp2
    go_ret
    exact ⟨⟨_, rfl, fun _ => .inr (.inr (.inl rfl))⟩, rfl⟩
  · go_enter Try.func21, Try.ntmps21
    go_wp2
    go_ret
    exact ⟨⟨true, rfl, fun h => by cases h⟩, rfl⟩
  · go_enter Try.func21, Try.ntmps21
    go_wp2
    go_ret
    exact ⟨⟨_, rfl, fun _ => .inr (.inr (.inr (.inl rfl)))⟩, rfl⟩
  · go_enter Try.func21, Try.ntmps21
    go_wp2
    go_ret
    exact ⟨⟨true, rfl, fun h => by cases h⟩, rfl⟩
  · go_enter Try.func21, Try.ntmps21
    go_wp2
    go_ret
    exact ⟨⟨_, rfl, fun _ => .inr (.inr (.inr (.inr p)))⟩, rfl⟩

/-- 'setToken' at a byte that starts no branch: nothing is written. -/
theorem setToken_non (a : Addr) (t : Int) (h0 : 0 ≤ t) (h1 : t ≤ 255) (hn : NonTok t) (w : World) :
    Calls Try.prog 32 #[.pointer (some a), .int .u8 t] w fun e w' => e = .returned (.tuple #[]) ∧ w' = w := by
  rcases hn with rfl | rfl | rfl | rfl | p
  all_goals
    go_enter Try.func32, Try.ntmps32
    go_wp2
    go_end0
    exact ⟨rfl, rfl⟩

theorem toShim (k0 : Int) (b1 : Bool) (k2 k3 : Int) (b4 b5 : Bool) (k6 k7 k8 k9 k10 : Int) (w : World) :
    Calls Try.prog 22 #[.agg #[.int .i64 k0, .bool b1, .int .u64 k2, .int .i64 k3, .bool b4, .bool b5, .int .i64 k6, .int .i64 k7, .int .u8 k8, .int .i64 k9, .int .i64 k10]] w fun e w' => e = .returned (.agg #[.int .i64 k0, .bool b1, .int .u64 k2, .int .i64 k3, .bool b4, .bool b5, .int .i64 k6, .int .i64 k7, .int .u8 k8, .int .i64 k9, .int .i64 k10]) ∧ Below w.heap.size w w' := by
  go_enter Try.func22, Try.ntmps22
  go_wp2
  refine bodyPost_ret (v := .agg #[.int .i64 k0, .bool b1, .int .u64 k2, .int .i64 k3, .bool b4, .bool b5, .int .i64 k6, .int .i64 k7, .int .u8 k8, .int .i64 k9, .int .i64 k10]) (by simp [results, Try.results22, go_sem]) rfl ⟨rfl, ?_⟩
  exact ((Below.refl _ _).alloc (Nat.le_refl _) _).alloc (by simp) _

theorem toBranch (k0 : Int) (b1 : Bool) (k2 k3 : Int) (b4 b5 : Bool) (k6 k7 k8 k9 k10 : Int) (w : World) :
    Calls Try.prog 31 #[.agg #[.int .i64 k0, .bool b1, .int .u64 k2, .int .i64 k3, .bool b4, .bool b5, .int .i64 k6, .int .i64 k7, .int .u8 k8, .int .i64 k9, .int .i64 k10]] w fun e w' => e = .returned (.agg #[.int .i64 k0, .bool b1, .int .u64 k2, .int .i64 k3, .bool b4, .bool b5, .int .i64 k6, .int .i64 k7, .int .u8 k8, .int .i64 k9, .int .i64 k10]) ∧ Below w.heap.size w w' := by
  go_enter Try.func31, Try.ntmps31
  go_wp2
  refine bodyPost_ret (v := .agg #[.int .i64 k0, .bool b1, .int .u64 k2, .int .i64 k3, .bool b4, .bool b5, .int .i64 k6, .int .i64 k7, .int .u8 k8, .int .i64 k9, .int .i64 k10]) (by simp [results, Try.results31, go_sem]) rfl ⟨rfl, ?_⟩
  exact ((Below.refl _ _).alloc (Nat.le_refl _) _).alloc (by simp) _

theorem fromBranch (k0 : Int) (b1 : Bool) (k2 k3 : Int) (b4 b5 : Bool) (k6 k7 k8 k9 k10 : Int) (w : World) :
    Calls Try.prog 33 #[.agg #[.int .i64 k0, .bool b1, .int .u64 k2, .int .i64 k3, .bool b4, .bool b5, .int .i64 k6, .int .i64 k7, .int .u8 k8, .int .i64 k9, .int .i64 k10]] w fun e w' => e = .returned (.agg #[.int .i64 k0, .bool b1, .int .u64 k2, .int .i64 k3, .bool b4, .bool b5, .int .i64 k6, .int .i64 k7, .int .u8 k8, .int .i64 k9, .int .i64 k10]) ∧ Below w.heap.size w w' := by
  go_enter Try.func33, Try.ntmps33
  go_wp2
  refine bodyPost_ret (v := .agg #[.int .i64 k0, .bool b1, .int .u64 k2, .int .i64 k3, .bool b4, .bool b5, .int .i64 k6, .int .i64 k7, .int .u8 k8, .int .i64 k9, .int .i64 k10]) (by simp [results, Try.results33, go_sem]) rfl ⟨rfl, ?_⟩
  exact ((Below.refl _ _).alloc (Nat.le_refl _) _).alloc (by simp) _
end Go.Proofs.Qxb6001311a
