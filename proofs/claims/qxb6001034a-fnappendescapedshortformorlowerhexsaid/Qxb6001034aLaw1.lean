import Derived.Test.Qxb6001034aEsc
namespace Go.Proofs.Qxb6001034a
open Go.RowKit

theorem below_draws {B : Nat} {a w : World} (h : Below B a w) (n : Nat) : Below B a (w.drewN n) := h.trans ⟨rfl, rfl, rfl, Nat.le_refl _, fun _ _ => rfl⟩

theorem zzb8_any (a : Option Addr) (n cap : Nat) (c : Int) (hn : n ≤ maxLen) (w : World) :
    Calls Try.prog 8 #[.slice a n cap, .int .u8 c] w fun e w' => (∃ b, e = .returned (.bool b)) ∧ w' = w := by
  unfold maxLen at hn
  go_enter Try.func8, Try.ntmps8
  go_wp2
  all_goals (go_ret; exact ⟨⟨_, rfl⟩, rfl⟩)

theorem Row8.tail {w : World} {b n : Nat} {ys es : List Int} (h : Row8 w (some ⟨b, 0, none⟩) (ys ++ es)) (hy : ys.length = n) : Row8 w (some ⟨b, n, none⟩) es := by
  refine .inr ⟨b, n, rfl, fun i hi => ?_⟩
  have h1 := h.at (n + i) (by rw [List.length_append]; omega)
  rw [Nat.zero_add] at h1
  rw [h1]
  congr 2
  subst hy
  rw [List.getD_eq_getElem?_getD, List.getD_eq_getElem?_getD, List.getElem?_append_right (by omega)]
  congr 2
  omega

theorem esc_len (c : Nat) : (esc c).length ≤ 6 ∧ 2 ≤ (esc c).length := by
  unfold esc
  repeat' split
  all_goals simp

set_option maxHeartbeats 400000 in
theorem decodesBack (a : Option Addr) (n cap c : Nat) (ys : List Int) (w : World) (hm : n ≤ maxLen) (hy : ys.length = n) (ha : a = none → n = 0) (hr : Row8 w a ys) (hc : c < 256) :
    Calls Try.prog 3 #[.slice a n cap, .int .u8 c] w fun e w' => e = .returned (.bool true) ∧ Below w.heap.size w w' := by
  go_enter Try.func3, Try.ntmps3
  go_wp2_with fail
  refine (zzb8_any a n cap c hm _).mono ?_
  rintro e w1 ⟨⟨b, rfl⟩, rfl⟩
  cases b
  · go_wp2
    go_ret
    exact ⟨rfl, Below.refl _ _⟩
  by_cases h0 : 1048576 < n
  · go_wp2
    go_ret
    exact ⟨rfl, Below.refl _ _⟩
  have hn : n ≤ 1048576 := by omega
  have hni : (n : Int) ≤ 1048576 := by omega
  go_wp2_with fail
  refine (clone_any a n cap ys _ hn hy ha hr).mono ?_
  rintro e wa ⟨a1, rfl, ha1, hr1, hb1⟩
  have HA : Hid (a1 = none → n = 0) := ha1
  clear ha1 ha
  go_wp2_with fail
  refine (clone_any a1 n n ys _ hn hy HA.out hr1).mono ?_
  rintro e wb ⟨a2, rfl, ha2, hr2, hb2⟩
  clear ha2
  go_wp2_with fail
  refine (zzAppend_any a1 n c ys _ hn hy (hr1.below hb2) hc).mono ?_
  rintro e wc ⟨b, cap3, rfl, hcap, hr3, hb3⟩
  have hes := esc_len c
  go_wp2_with fail
  refine (hasPrefix_any _ a2 n _ cap3 n ys (esc c) _ hn rfl (by omega) hy hr3 (hr2.below hb3)).mono ?_
  rintro e wd ⟨rfl, k, rfl⟩
  go_wp2_with fail
  have hr4 : Row8 (wc.drewN k) (some ⟨b, n, none⟩) (esc c) := (hr3.tail hy).below (below_draws (Below.refl _ _) k)
  refine (decode_any c hc b n _ _ hr4).mono ?_
  rintro e we ⟨rfl, rfl⟩
  go_wp2
  go_ret
  exact ⟨rfl, below_draws ((hb1.trans (hb2.mono hb1.size)).trans (hb3.mono (Nat.le_trans hb1.size hb2.size))) k⟩

/-- What came in, in the words of this text. -/
theorem row8_of (w : World) (a : Option Addr) (len cap : Nat) (zs : List Int)
    (h : (a = none ∧ len = 0 ∧ cap = 0 ∧ zs = []) ∨ ∃ x, a = some x ∧ len ≤ cap ∧ cap ≤ maxLen ∧ zs.length = cap ∧ (∀ i, i < zs.length → w.cell? (x.add i) = some (.int .u8 (zs.getD i 0))) ∧ ∀ n ∈ zs, (Lit.int .u8 n).wf = true) :
    len ≤ maxLen ∧ (zs.take len).length = len ∧ (a = none → len = 0) ∧ Row8 w a (zs.take len) := by
  rcases h with ⟨rfl, rfl, rfl, rfl⟩ | ⟨x, rfl, hl, hm, hz, hcell, hwz⟩
  · exact ⟨Nat.zero_le _, rfl, fun _ => rfl, .inl rfl⟩
  · refine ⟨Nat.le_trans hl hm, by rw [List.length_take]; omega, (fun h => by cases h), ?_⟩
    by_cases h0 : len = 0
    · subst h0
      exact .inl rfl
    · obtain ⟨b, off, spot⟩ := x
      have hc := hcell 0 (by omega)
      have hspot : spot = none := by simpa [Addr.add] using World.cell?_spot hc
      subst hspot
      refine .inr ⟨b, off, rfl, fun i hi => ?_⟩
      have hi' : i < len := by rw [List.length_take] at hi; omega
      have h1 := hcell i (by omega)
      rw [Addr.add_lit] at h1
      rw [h1]
      congr 2
      rw [List.getD_eq_getElem?_getD, List.getD_eq_getElem?_getD, List.getElem?_take_of_lt hi']

end Go.Proofs.Qxb6001034a
