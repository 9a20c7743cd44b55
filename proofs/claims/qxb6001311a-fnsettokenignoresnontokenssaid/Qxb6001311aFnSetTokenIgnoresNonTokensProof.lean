import Derived.Test.Qxb6001311aRows
import Derived.Test.Qxb6001311aWalks2
import Derived.WalkKit
import Derived.ProofKit
import Derived.OpenShut
import Derived.ShutString
import Derived.ChangeOld
import Derived.Below
namespace Go.Proofs.Qxb6001311a.fnSetTokenIgnoresNonTokens
open Go.ChangeShapes Go.WideShapes Go.ChangeAt Go.RowKit
set_option linter.unusedVariables false

theorem own : ownKnob Try.prog.godebug = none := by kernel_rfl
theorem laidOut : laidOutB Try.prog = true := by kernel_rfl
theorem Try.cells45 : Try.prog.cellsOf 45 = 11 := by kernel_rfl
theorem Try.cells3 : Try.prog.cellsOf 3 = 1 := by kernel_rfl
theorem Try.cells4 : Try.prog.cellsOf 4 = 1 := by kernel_rfl
theorem Try.cells32 : Try.prog.cellsOf 32 = 1 := by kernel_rfl
theorem Try.cells5 : Try.prog.cellsOf 5 = 1 := by kernel_rfl

/-- The struct by value, written out. -/
theorem shape {H : Type} {enc : TypeId × Value → H} {W : World} {r : Reach} {b0 base : Nat} {sp : Nat → Bool} {held : Bool} {v : Value} {d : DataW H} {p : List MemPlace}
    (hv : Value.okWide Try.prog W r b0 45 v) (h : DataW.Trod enc Try.prog W base sp held 45 v d p) :
    ∃ (k0 : Int) (b1 : Bool) (k2 k3 : Int) (b4 b5 : Bool) (k6 k7 k8 k9 k10 : Int), v = .agg #[.int .i64 k0, .bool b1, .int .u64 k2, .int .i64 k3, .bool b4, .bool b5, .int .i64 k6, .int .i64 k7, .int .u8 k8, .int .i64 k9, .int .i64 k10] := by
  obtain ⟨cs, rfl, hsz⟩ := okWide_struct Try.underlying45 hv
  rw [Try.cells45] at hsz
  obtain ⟨fuel, hf⟩ := h
  obtain ⟨xs, n, _, _, _, hlen, hfield⟩ := DataW.trod_struct Try.underlying45 hf
  match cs, hsz, xs, hlen with
  | ⟨[c0, c1, c2, c3, c4, c5, c6, c7, c8, c9, c10]⟩, _, [y0, y1, y2, y3, y4, y5, y6, y7, y8, y9, y10], _ =>
    have g0 := hfield 0 _ rfl
    simp [Value.cells, Try.cells3] at g0
    obtain ⟨k0, e0, _, _⟩ := DataW.trod_int Try.underlying3 g0
    simp at e0
    subst e0
    have g1 := hfield 1 _ rfl
    simp [Value.cells, Try.cells4] at g1
    obtain ⟨b1, e1, _⟩ := DataW.trod_bool Try.underlying4 g1
    simp at e1
    subst e1
    have g2 := hfield 2 _ rfl
    simp [Value.cells, Try.cells32] at g2
    obtain ⟨k2, e2, _, _⟩ := DataW.trod_int Try.underlying32 g2
    simp at e2
    subst e2
    have g3 := hfield 3 _ rfl
    simp [Value.cells, Try.cells3] at g3
    obtain ⟨k3, e3, _, _⟩ := DataW.trod_int Try.underlying3 g3
    simp at e3
    subst e3
    have g4 := hfield 4 _ rfl
    simp [Value.cells, Try.cells4] at g4
    obtain ⟨b4, e4, _⟩ := DataW.trod_bool Try.underlying4 g4
    simp at e4
    subst e4
    have g5 := hfield 5 _ rfl
    simp [Value.cells, Try.cells4] at g5
    obtain ⟨b5, e5, _⟩ := DataW.trod_bool Try.underlying4 g5
    simp at e5
    subst e5
    have g6 := hfield 6 _ rfl
    simp [Value.cells, Try.cells3] at g6
    obtain ⟨k6, e6, _, _⟩ := DataW.trod_int Try.underlying3 g6
    simp at e6
    subst e6
    have g7 := hfield 7 _ rfl
    simp [Value.cells, Try.cells3] at g7
    obtain ⟨k7, e7, _, _⟩ := DataW.trod_int Try.underlying3 g7
    simp at e7
    subst e7
    have g8 := hfield 8 _ rfl
    simp [Value.cells, Try.cells5] at g8
    obtain ⟨k8, e8, _, _⟩ := DataW.trod_int Try.underlying5 g8
    simp at e8
    subst e8
    have g9 := hfield 9 _ rfl
    simp [Value.cells, Try.cells3] at g9
    obtain ⟨k9, e9, _, _⟩ := DataW.trod_int Try.underlying3 g9
    simp at e9
    subst e9
    have g10 := hfield 10 _ rfl
    simp [Value.cells, Try.cells3] at g10
    obtain ⟨k10, e10, _, _⟩ := DataW.trod_int Try.underlying3 g10
    simp at e10
    subst e10
    exact ⟨k0, b1, k2, k3, b4, b5, k6, k7, k8, k9, k10, rfl⟩

set_option maxRecDepth 100000 in
theorem lifted (os : Os) (started : os.Started) (H : Type) (enc : TypeId × Value → H) :
    ReturnsInHanded {} Try.checked os 7 .any (Rows.fnSetTokenIgnoresNonTokensSpec.pre6 enc Try.prog Try.f7 Rows.fnSetTokenIgnoresNonTokensRow.domain false) (Rows.fnSetTokenIgnoresNonTokensSpec.post enc Try.prog Try.f7 false true false false) := by
  refine returnsInHanded_of_change (C := Try.checked) own started (by kernel_rfl) Try.func7
    (ChangeSpec.witness6 (enc := enc) (C := Try.checked) false ⟨#[], #[.agg #[.int .i64 0, .bool false, .int .u64 0, .int .i64 0, .bool false, .bool false, .int .i64 0, .int .i64 0, .int .u8 0, .int .i64 0, .int .i64 0], .int .u8 0], []⟩ 8 (by kernel_rfl) (by kernel_rfl) (by kernel_rfl) (by kernel_rfl)) ?_
  intro W base args ds gs before hval0 hW hcnd _
  have hval : ∀ (j : Nat) t v, Try.f7.params[j]? = some t → args[j]? = some v → Value.okWide Try.prog W .any base t v := hval0
  have hW' := hW
  obtain ⟨p, q, hA0, hV, rfl, hfz, hnd⟩ := hW
  have hA : DataW.TrodAll enc Try.prog W 0 (fun _ => true) true Try.f7.params.toList args.toList ds p := hA0
  rw [Try.params7] at hA hval
  obtain ⟨v0, vs0, d0, ds0, p0, q0, hargs, rfl, rfl, h0, r0⟩ := trodAll_cons hA
  obtain ⟨v1, vs1, d1, ds1, p1, q1, rfl, rfl, rfl, h1, r1⟩ := trodAll_cons r0
  obtain ⟨rfl, rfl, rfl⟩ := trodAll_nil r1
  obtain rfl : args = #[v0, v1] := by cases args; simp_all
  obtain ⟨rfl, rfl⟩ := trodVars_none hV
  have k0 := h0
  have lt0 : ∀ x ∈ p0, x.block < W.heap.size := by obtain ⟨m, hm⟩ := k0; exact DataW.trod_lt m _ _ _ hm
  obtain ⟨x0, x1, x2, x3, x4, x5, x6, x7, x8, x9, x10, rfl⟩ := shape (hval 0 45 v0 rfl rfl) h0
  obtain ⟨a1, rfl, rfl, rfl, w1⟩ := open_int Try.underlying5 (hval 1 5 v1 rfl rfl) h1
  clear hA0 hval0
  obtain ⟨u1, u2⟩ := Go.bounds_u8 w1
  refine (ignores x0 x1 x2 x3 x4 x5 x6 x7 x8 x9 x10 a1 u1 u2 W).mono fun e W' ⟨he, bel⟩ => ?_
  subst he
  exact ⟨_, rfl, _, _, _, [], _, [], hW', trodAll_mk1 (shut_bool Try.underlying4 _), (trodAll_cons_mk (Below.trod laidOut (by kernel_rfl) (of_decide_eq_true (by kernel_rfl)) k0 bel lt0) (trodAll_cons_mk (shut_int Try.underlying5 w1) trodAll_mk0)), rfl, bel.frame _, fun h => by cases h⟩

theorem over : Rows.fnSetTokenIgnoresNonTokensRow.holds Try.pinned (OpenSpec.ofChange Rows.fnSetTokenIgnoresNonTokensSpec) :=
  OpenClaim.holds_of_wide 7 Try.f7 rfl rfl rfl rfl rfl rfl rfl ⟨rfl, rfl, rfl, rfl, rfl⟩ rfl rfl rfl rfl rfl (by kernel_rfl) Try.func7 (by kernel_rfl)
    (of_decide_eq_true (by kernel_rfl)) (by unfold Func.isWrapper; first | (rw [if_pos (by decide +kernel)]; kernel_rfl) | (rw [if_neg (by decide +kernel)]; exact ⟨rfl, rfl⟩))
    (fun os started H enc _ => lifted os started H enc)

/-- THE STATEMENT -/
theorem proved : Rows.FnSetTokenIgnoresNonTokensSaid := over
end Go.Proofs.Qxb6001311a.fnSetTokenIgnoresNonTokens
