import Derived.Test.Qxb6001559aClone
import Derived.Test.Qxb6001559aPlain
namespace Go.Proofs.Qxb6001559a
open Go.RowKit

/-- The byte at place j. -/
def at8 (ys : List Int) (j : Nat) : Int := ys.getD j 0

set_option maxHeartbeats 400000 in
theorem stringEnd_any (b off n cap i q : Nat) (ys : List Int) (w : World) (hn : n ≤ 1048576)
    (hc : ∀ j, j < n → w.cell? ⟨b, off + j, none⟩ = some (.int .u8 (at8 ys j))) (c : Closing (at8 ys) i n q) :
    Calls Try.prog 12 #[.slice (some ⟨b, off, none⟩) n cap, .int .i64 i] w fun e w' => e = .returned (.int .i64 (q + 1)) ∧ w' = w := by
  have c1 := c.lo
  have c2 := c.hi
  go_enter Try.func12, Try.ntmps12
  go_wp2
  go_loop [1] (fun j => ∃ k : Nat, j = .int .i64 k ∧ Head (at8 ys) i q k) (fun j => q - (intOf j).toNat)
  case atStart => exact ⟨i + 1, by go_num, head_start c⟩
  case round =>
    obtain ⟨k, rfl, hd⟩ := hrel
    have d1 := hd.lo
    have d2 := hd.hi
    have hk := hc k (by omega)
    have hkn : (k : Int) < (n : Int) := by omega
    by_cases h92 : at8 ys k = 92
    · have R := head_esc c hd h92
      have r2 := R.hi
      rw [h92] at hk
      clear h92 hc
      go_wp2
      exact ⟨⟨k + 2, by go_num, R⟩, by simp [intOf]; omega⟩
    by_cases h34 : at8 ys k = 34
    · have e := head_quote c hd h34
      subst e
      rw [h34] at hk
      clear h34 hc h92
      go_wp2
      go_ret
      exact ⟨rfl, rfl⟩
    · have R := head_plain c hd h92 h34
      have r2 := R.hi
      have g92 : (at8 ys k == 92) = false := by simp [h92]
      have g34 : (at8 ys k == 34) = false := by simp [h34]
      clear h92 hc h34
      go_wp2
      exact ⟨⟨k + 1, by go_num, R⟩, by simp [intOf]; omega⟩

theorem zzStringEnd_any (b off n cap i q : Nat) (ys : List Int) (w : World) (hn : n ≤ 1048576)
    (hc : ∀ j, j < n → w.cell? ⟨b, off + j, none⟩ = some (.int .u8 (at8 ys j))) (c : Closing (at8 ys) i n q) :
    Calls Try.prog 8 #[.slice (some ⟨b, off, none⟩) n cap, .int .i64 i] w fun e w' => e = .returned (.int .i64 (q + 1)) ∧ w' = w := by
  go_enter Try.func8, Try.ntmps8
  go_wp2_with fail
  refine (stringEnd_any b off n cap i q ys _ hn hc c).mono ?_
  rintro e w1 ⟨rfl, rfl⟩
  go_wp2
  go_ret
  exact ⟨rfl, rfl⟩

set_option maxHeartbeats 1000000 in
theorem closingQuote_any (b off n cap i : Nat) (ys : List Int) (w : World) (hn : n ≤ 1048576) (hi : i < n)
    (hc : ∀ j, j < n → w.cell? ⟨b, off + j, none⟩ = some (.int .u8 (at8 ys j))) :
    Calls Try.prog 10 #[.slice (some ⟨b, off, none⟩) n cap, .int .i64 i] w fun e w' => (e = .returned (.int .i64 (-1)) ∨ ∃ q : Nat, e = .returned (.int .i64 q) ∧ Closing (at8 ys) i n q) ∧ w' = w := by
  go_enter Try.func10, Try.ntmps10
  go_wp2
  go_loop [5, 6, 7] (fun q m p => ∃ k : Nat, q = .int .i64 k ∧ i < k ∧ k ≤ n ∧ NoneTo (at8 ys) i k) (fun q _ _ => n - (intOf q).toNat)
  case atStart => exact ⟨i + 1, by go_num, by omega, by omega, noneTo_start _ _⟩
  case round =>
    obtain ⟨k, rfl, k1, k2, hN⟩ := hrel
    by_cases hlt : k < n
    · have hk := hc k hlt
      have hkn : (k : Int) < (n : Int) := by omega
      by_cases h34 : at8 ys k = 34
      · rw [h34] at hk
        go_wp2
        go_loop [6, 7] (fun m p => ∃ r pp : Nat, m = .int .i64 r ∧ p = .int .i64 pp ∧ Hid (pp + 1 + r = k) ∧ Count (at8 ys) i k r) (fun _ p => (intOf p).toNat)
        case atStart => exact ⟨0, k - 1, rfl, by go_num, (by show k - 1 + 1 + 0 = k; omega), count_start k1⟩
        case round =>
          obtain ⟨r, pp, rfl, rfl, HP, hC⟩ := hrel
          have q1 : pp < k := by have := HP.out; omega
          have q2 : i ≤ pp := by have := HP.out; have := hC.room; omega
          have q3 : r ≤ k := by have := HP.out; omega
          have hp := hc pp (by omega)
          have hpn : (pp : Int) < (n : Int) := by omega
          have e1 : k - 1 - r = pp := by have := HP.out; omega
          by_cases hgt : i < pp
          · have hgti : (i : Int) < (pp : Int) := by omega
            by_cases h92 : at8 ys pp = 92
            · have R := count_next hC (by have := HP.out; omega) (by rw [e1]; exact h92)
              have HP2 : Hid (pp - 1 + 1 + (r + 1) = k) := by show pp - 1 + 1 + (r + 1) = k; have := HP.out; omega
              rw [h92] at hp
              clear h92 hc e1 hN h34
              go_wp2
              exact ⟨⟨r + 1, pp - 1, by go_num, by go_num, HP2, R⟩, by simp [intOf]; omega⟩
            · have E := count_stop hC (by rw [e1]; exact h92) (by have := HP.out; omega)
              have g92 : (at8 ys pp == 92) = false := by simp [h92]
              clear h92 hc e1
              have HE : Hid (bs (at8 ys) i k = r) := E
              clear E
              by_cases hev : r % 2 = 0
              · have C : Closing (at8 ys) i n k := closing_of hN k1 hlt h34 (by rw [HE.out]; exact hev)
                have hevi : ((r : Int) % 2 == 0) = true := by simp; omega
                clear hev h34 hN
                go_wp2
                go_ret
                exact ⟨.inr ⟨k, rfl, C⟩, rfl⟩
              · have R := noneTo_odd hN (by rw [HE.out]; exact hev)
                have hevi : ((r : Int) % 2 == 0) = false := by simp; omega
                clear hev h34 hN
                go_wp2
                exact ⟨⟨k + 1, by go_num, by omega, by omega, R⟩, by simp [intOf]; omega⟩
          · have E := count_end hC (by have := HP.out; omega)
            have hdf : decide ((i : Int) < (pp : Int)) = false := by simp; omega
            clear hc e1
            have HE : Hid (bs (at8 ys) i k = r) := E
            clear E
            by_cases hev : r % 2 = 0
            · have C : Closing (at8 ys) i n k := closing_of hN k1 hlt h34 (by rw [HE.out]; exact hev)
              have hevi : ((r : Int) % 2 == 0) = true := by simp; omega
              clear hev h34 hN
              go_wp2
              go_ret
              exact ⟨.inr ⟨k, rfl, C⟩, rfl⟩
            · have R := noneTo_odd hN (by rw [HE.out]; exact hev)
              have hevi : ((r : Int) % 2 == 0) = false := by simp; omega
              clear hev h34 hN
              go_wp2
              exact ⟨⟨k + 1, by go_num, by omega, by omega, R⟩, by simp [intOf]; omega⟩
      · have R := noneTo_other hN h34
        have g34 : (at8 ys k != 34) = true := by simp [h34]
        clear h34 hc
        go_wp2
        exact ⟨⟨k + 1, by go_num, by omega, by omega, R⟩, by simp [intOf]; omega⟩
    · clear hc
      go_wp2
      go_ret
      exact ⟨.inl rfl, rfl⟩
end Go.Proofs.Qxb6001559a
