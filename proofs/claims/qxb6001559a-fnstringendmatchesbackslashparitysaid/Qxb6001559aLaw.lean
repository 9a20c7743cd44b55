import Derived.Test.Qxb6001559aWalks
namespace Go.Proofs.Qxb6001559a
open Go.RowKit

theorem zzb9_any (a : Option Addr) (n cap : Nat) (i : Int) (hn : n ≤ maxLen) (w : World) :
    Calls Try.prog 9 #[.slice a n cap, .int .i64 i] w fun e w' => (∃ b, e = .returned (.bool b)) ∧ w' = w := by
  unfold maxLen at hn
  go_enter Try.func9, Try.ntmps9
  go_wp2
  all_goals (go_ret; exact ⟨⟨_, rfl⟩, rfl⟩)

theorem Row8.cells {w : World} {a : Option Addr} {ys : List Int} {n : Nat} (h : Row8 w a ys) (hy : ys.length = n) (h0 : 0 < n) :
    ∃ b off, a = some ⟨b, off, none⟩ ∧ ∀ j, j < n → w.cell? ⟨b, off + j, none⟩ = some (.int .u8 (at8 ys j)) := by
  rcases h with h | ⟨b, off, ha, hc⟩
  · subst h
    rw [List.length_nil] at hy
    omega
  · exact ⟨b, off, ha, fun j hj => hc j (by omega)⟩

set_option maxHeartbeats 1000000 in
theorem parity (a : Option Addr) (n cap : Nat) (i : Int) (ys : List Int) (w : World) (hm : n ≤ maxLen) (hy : ys.length = n) (ha : a = none → n = 0) (hr : Row8 w a ys) :
    Calls Try.prog 4 #[.slice a n cap, .int .i64 i] w fun e w' => e = .returned (.bool true) ∧ Below w.heap.size w w' := by
  go_enter Try.func4, Try.ntmps4
  go_wp2_with fail
  refine (zzb9_any a n cap i hm _).mono ?_
  rintro e w1 ⟨⟨b, rfl⟩, rfl⟩
  cases b
  · go_wp2
    go_ret
    exact ⟨rfl, Below.refl _ _⟩
  by_cases h0 : 1048576 < n
  · go_wp2
    go_ret
    exact ⟨rfl, Below.refl _ _⟩
  have hn : n ≤ 1048576 := by omega
  by_cases hneg : i < 0
  · go_wp2
    go_ret
    exact ⟨rfl, Below.refl _ _⟩
  by_cases hbig : (n : Int) ≤ i
  · go_wp2
    go_ret
    exact ⟨rfl, Below.refl _ _⟩
  obtain ⟨k, rfl⟩ := Int.eq_ofNat_of_zero_le (show 0 ≤ i by omega)
  have hk : k < n := by omega
  have hki : (k : Int) < (n : Int) := by omega
  obtain ⟨b, off, rfl, hc⟩ := hr.cells hy (by omega)
  have hck := hc k hk
  by_cases h34 : at8 ys k = 34
  · rw [h34] at hck
    clear hc
    go_wp2_with fail
    refine (clone_any _ n cap ys _ hn hy ha hr).mono ?_
    rintro e wa ⟨a1, rfl, ha1, hr1, hb1⟩
    clear ha1 ha
    obtain ⟨b1, off1, rfl, hc1⟩ := hr1.cells hy (by omega)
    have HC : Hid (∀ j, j < n → wa.cell? ⟨b1, off1 + j, none⟩ = some (.int .u8 (at8 ys j))) := hc1
    clear hc1
    go_wp2_with fail
    refine (closingQuote_any b1 off1 n n k ys _ hn hk HC.out).mono ?_
    rintro e wb ⟨he | ⟨q, he, C⟩, rfl⟩
    · subst he
      go_wp2
      go_ret
      exact ⟨rfl, hb1⟩
    · subst he
      have q1 := C.hi
      go_wp2_with fail
      refine (zzStringEnd_any b1 off1 n n k q ys _ hn HC.out C).mono ?_
      rintro e wc ⟨rfl, rfl⟩
      go_wp2
      go_ret
      exact ⟨rfl, hb1⟩
  · have g34 : (at8 ys k != 34) = true := by simp [h34]
    clear h34 hc
    go_wp2
    go_ret
    exact ⟨rfl, Below.refl _ _⟩

/-- What came in, in the words of this text. -/
theorem row8_of (w : World) (a : Option Addr) (len cap : Nat) (zs : List Int)
    (h : (a = none ∧ len = 0 ∧ cap = 0 ∧ zs = []) ∨ ∃ x, a = some x ∧ len ≤ cap ∧ cap ≤ maxLen ∧ zs.length = cap ∧ (∀ i, i < zs.length → w.cell? (x.add i) = some (.int .u8 (zs.getD i 0))) ∧ ∀ n ∈ zs, (Lit.int .u8 n).wf = true) :
    len ≤ maxLen ∧ (zs.take len).length = len ∧ (a = none → len = 0) ∧ Row8 w a (zs.take len) := by
  rcases h with ⟨rfl, rfl, rfl, rfl⟩ | ⟨x, rfl, hl, hm, hz, hcell, hwz⟩
  · exact ⟨Nat.zero_le _, rfl, fun _ => rfl, .inl rfl⟩
  · refine ⟨Nat.le_trans hl hm, by rw [List.length_take]; omega, (fun h => by cases h), ?_⟩
    by_cases h0 : len = 0
    · subst h0
      exact .inl rfl
    · obtain ⟨b, off, spot⟩ := x
      have hc := hcell 0 (by omega)
      have hspot : spot = none := by simpa [Addr.add] using World.cell?_spot hc
      subst hspot
      refine .inr ⟨b, off, rfl, fun i hi => ?_⟩
      have hi' : i < len := by rw [List.length_take] at hi; omega
      have h1 := hcell i (by omega)
      rw [Addr.add_lit] at h1
      rw [h1]
      congr 2
      rw [List.getD_eq_getElem?_getD, List.getD_eq_getElem?_getD, List.getElem?_take_of_lt hi']

end Go.Proofs.Qxb6001559a
