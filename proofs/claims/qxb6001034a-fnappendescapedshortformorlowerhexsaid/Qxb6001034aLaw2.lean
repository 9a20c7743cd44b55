import Derived.Test.Qxb6001034aLaw1
namespace Go.Proofs.Qxb6001034a
open Go.RowKit

theorem zzb13_any (a : Option Addr) (n cap : Nat) (c : Int) (hn : n ≤ maxLen) (w : World) :
    Calls Try.prog 13 #[.slice a n cap, .int .u8 c] w fun e w' => (∃ b, e = .returned (.bool b)) ∧ w' = w := by
  unfold maxLen at hn
  go_enter Try.func13, Try.ntmps13
  go_wp2
  all_goals (go_ret; exact ⟨⟨_, rfl⟩, rfl⟩)

/-- The letter of the short escape of c, or 0. -/
def letter (c : Nat) : Int := if c = 8 then 98 else if c = 9 then 116 else if c = 10 then 110 else if c = 12 then 102 else if c = 13 then 114 else 0

theorem shortLetter_any (c : Nat) (w : World) :
    Calls Try.prog 14 #[.int .u8 c] w fun e w' => e = .returned (.int .u8 (letter c)) ∧ w' = w := by
  by_cases h8 : c = 8
  · subst h8
    go_enter Try.func14, Try.ntmps14
    go_wp2
    go_ret
    exact ⟨rfl, rfl⟩
  by_cases h9 : c = 9
  · subst h9
    go_enter Try.func14, Try.ntmps14
    go_wp2
    go_ret
    exact ⟨rfl, rfl⟩
  by_cases h10 : c = 10
  · subst h10
    go_enter Try.func14, Try.ntmps14
    go_wp2
    go_ret
    exact ⟨rfl, rfl⟩
  by_cases h12 : c = 12
  · subst h12
    go_enter Try.func14, Try.ntmps14
    go_wp2
    go_ret
    exact ⟨rfl, rfl⟩
  by_cases h13 : c = 13
  · subst h13
    go_enter Try.func14, Try.ntmps14
    go_wp2
    go_ret
    exact ⟨rfl, rfl⟩
  rw [show letter c = 0 from by simp [letter, h8, h9, h10, h12, h13]]
  have g8 : ((c : Int) == 8) = false := by simp; omega
  have g12 : ((c : Int) == 12) = false := by simp; omega
  have g10 : ((c : Int) == 10) = false := by simp; omega
  have g13 : ((c : Int) == 13) = false := by simp; omega
  have g9 : ((c : Int) == 9) = false := by simp; omega
  clear h8 h12 h10 h13 h9
  go_enter Try.func14, Try.ntmps14
  go_wp2
  go_ret
  exact ⟨rfl, rfl⟩

theorem isLowerHex_any (d : Nat) (hd : d < 16) (w : World) :
    Calls Try.prog 15 #[.int .u8 (hx d)] w fun e w' => e = .returned (.bool true) ∧ w' = w := by
  obtain ⟨h1, h2, h3, h4⟩ := hx_bounds d hd
  by_cases h : d < 10
  · have g2 := (h3 h).2
    clear h3 h4
    generalize hx d = z at *
    go_enter Try.func15, Try.ntmps15
    go_wp2
    go_ret
    exact ⟨rfl, rfl⟩
  · have g2 := (h4 (by omega)).2
    clear h3 h4
    generalize hx d = z at *
    have g3 : decide (z ≤ 57) = false := by simp; omega
    go_enter Try.func15, Try.ntmps15
    go_wp2
    go_ret
    exact ⟨rfl, rfl⟩


theorem zzAppend_es (a : Option Addr) (n c m : Nat) (ys es : List Int) (w : World) (hn : n ≤ 1048576) (hy : ys.length = n) (hr : Row8 w a ys) (hc : c < 256) (hes : esc c = es) (hm : es.length = m) :
    Calls Try.prog 10 #[.slice a n n, .int .u8 c] w fun e w' => ∃ b cap, e = .returned (.slice (some ⟨b, 0, none⟩) (n + m) cap) ∧ n + m ≤ cap ∧ Row8 w' (some ⟨b, 0, none⟩) (ys ++ es) ∧ Below w.heap.size w w' := by
  subst hes
  subst hm
  exact zzAppend_any a n c ys w hn hy hr hc

set_option maxHeartbeats 1000000 in
theorem shortForm (a : Option Addr) (n cap c : Nat) (l : Int) (ys : List Int) (w : World) (hm : n ≤ maxLen) (hy : ys.length = n) (ha : a = none → n = 0) (hr : Row8 w a ys) (hc : c < 256)
    (hes : esc c = [92, l]) (hl : letter c = l) (l1 : 97 ≤ l) (l2 : l ≤ 122) :
    Calls Try.prog 4 #[.slice a n cap, .int .u8 c] w fun e w' => e = .returned (.bool true) ∧ Below w.heap.size w w' := by
  have HE : Hid (esc c = [92, l]) := hes
  have HL : Hid (letter c = l) := hl
  clear hes hl
  go_enter Try.func4, Try.ntmps4
  go_wp2_with fail
  refine (zzb13_any a n cap c hm _).mono ?_
  rintro e w1 ⟨⟨b, rfl⟩, rfl⟩
  cases b
  · go_wp2
    go_ret
    exact ⟨rfl, Below.refl _ _⟩
  by_cases h0 : 1048576 < n
  · go_wp2
    go_ret
    exact ⟨rfl, Below.refl _ _⟩
  have hn : n ≤ 1048576 := by omega
  have hni : (n : Int) ≤ 1048576 := by omega
  go_wp2_with fail
  refine (clone_any a n cap ys _ hn hy ha hr).mono ?_
  rintro e wa ⟨a1, rfl, ha1, hr1, hb1⟩
  have HA : Hid (a1 = none → n = 0) := ha1
  clear ha1 ha
  go_wp2_with fail
  refine (clone_any a1 n n ys _ hn hy HA.out hr1).mono ?_
  rintro e wb ⟨a2, rfl, ha2, hr2, hb2⟩
  clear ha2
  go_wp2_with fail
  refine (zzAppend_es a1 n c 2 ys [92, l] _ hn hy (hr1.below hb2) hc HE.out rfl).mono ?_
  rintro e wc ⟨b, cap3, rfl, hcap, hr3, hb3⟩
  go_wp2_with fail
  refine (hasPrefix_any _ a2 n _ cap3 n ys [92, l] _ hn rfl (by simp) hy hr3 (hr2.below hb3)).mono ?_
  rintro e wd ⟨rfl, k, rfl⟩
  have hr4 : Row8 (wc.drewN k) (some ⟨b, n, none⟩) [92, l] := (hr3.tail hy).below (below_draws (Below.refl _ _) k)
  have fin : Below w1.heap.size w1 (wc.drewN k) := below_draws ((hb1.trans (hb2.mono hb1.size)).trans (hb3.mono (Nat.le_trans hb1.size hb2.size))) k
  have c0 : (wc.drewN k).cell? ⟨b, n, none⟩ = some (.int .u8 92) := hr4.at 0 (by simp)
  have c1 : (wc.drewN k).cell? ⟨b, n + 1, none⟩ = some (.int .u8 l) := hr4.at 1 (by simp)
  generalize wc.drewN k = W at *
  go_wp2_with fail
  go_loop [8] (fun i => ∃ q : Nat, q ≤ 2 ∧ i = .int .i64 q) (fun i => 2 - (intOf i).toNat)
  case atStart => exact ⟨0, by omega, rfl⟩
  case round =>
    have n34 : (l == 34) = false := by simp; omega
    have n0 : (l != 0) = true := by rw [bne_iff_ne]; omega
    have d32 : decide (l < 32) = false := by simp; omega
    have d127 : decide (127 ≤ l) = false := by simp; omega
    obtain ⟨q, hq, rfl⟩ := hrel
    match q, hq with
    | 0, _ =>
      go_wp2
      exact ⟨⟨1, by omega, rfl⟩, by simp [intOf]⟩
    | 1, _ =>
      go_wp2
      exact ⟨⟨2, by omega, rfl⟩, by simp [intOf]⟩
    | 2, _ =>
      go_wp2_with fail
      refine (shortLetter_any c _).mono ?_
      rintro e we ⟨rfl, rfl⟩
      rw [HL.out]
      go_wp2
      go_ret
      exact ⟨rfl, fin⟩

set_option maxHeartbeats 1000000 in
theorem longForm (a : Option Addr) (n cap c p q : Nat) (ys : List Int) (w : World) (hm : n ≤ maxLen) (hy : ys.length = n) (ha : a = none → n = 0) (hr : Row8 w a ys) (hc : c < 256)
    (hes : esc c = [92, 117, 48, 48, hx p, hx q]) (hl : letter c = 0) (hp : p < 16) (hq : q < 16) :
    Calls Try.prog 4 #[.slice a n cap, .int .u8 c] w fun e w' => e = .returned (.bool true) ∧ Below w.heap.size w w' := by
  have HE : Hid (esc c = [92, 117, 48, 48, hx p, hx q]) := hes
  have HL : Hid (letter c = 0) := hl
  clear hes hl
  go_enter Try.func4, Try.ntmps4
  go_wp2_with fail
  refine (zzb13_any a n cap c hm _).mono ?_
  rintro e w1 ⟨⟨b, rfl⟩, rfl⟩
  cases b
  · go_wp2
    go_ret
    exact ⟨rfl, Below.refl _ _⟩
  by_cases h0 : 1048576 < n
  · go_wp2
    go_ret
    exact ⟨rfl, Below.refl _ _⟩
  have hn : n ≤ 1048576 := by omega
  have hni : (n : Int) ≤ 1048576 := by omega
  go_wp2_with fail
  refine (clone_any a n cap ys _ hn hy ha hr).mono ?_
  rintro e wa ⟨a1, rfl, ha1, hr1, hb1⟩
  have HA : Hid (a1 = none → n = 0) := ha1
  clear ha1 ha
  go_wp2_with fail
  refine (clone_any a1 n n ys _ hn hy HA.out hr1).mono ?_
  rintro e wb ⟨a2, rfl, ha2, hr2, hb2⟩
  clear ha2
  go_wp2_with fail
  refine (zzAppend_es a1 n c 6 ys [92, 117, 48, 48, hx p, hx q] _ hn hy (hr1.below hb2) hc HE.out rfl).mono ?_
  rintro e wc ⟨b, cap3, rfl, hcap, hr3, hb3⟩
  go_wp2_with fail
  refine (hasPrefix_any _ a2 n _ cap3 n ys [92, 117, 48, 48, hx p, hx q] _ hn rfl (by simp) hy hr3 (hr2.below hb3)).mono ?_
  rintro e wd ⟨rfl, k, rfl⟩
  have hr4 : Row8 (wc.drewN k) (some ⟨b, n, none⟩) [92, 117, 48, 48, hx p, hx q] := (hr3.tail hy).below (below_draws (Below.refl _ _) k)
  have fin : Below w1.heap.size w1 (wc.drewN k) := below_draws ((hb1.trans (hb2.mono hb1.size)).trans (hb3.mono (Nat.le_trans hb1.size hb2.size))) k
  have c0 : (wc.drewN k).cell? ⟨b, n, none⟩ = some (.int .u8 92) := hr4.at 0 (by simp)
  have c1 : (wc.drewN k).cell? ⟨b, n + 1, none⟩ = some (.int .u8 117) := hr4.at 1 (by simp)
  have c2 : (wc.drewN k).cell? ⟨b, n + 2, none⟩ = some (.int .u8 48) := hr4.at 2 (by simp)
  have c3 : (wc.drewN k).cell? ⟨b, n + 3, none⟩ = some (.int .u8 48) := hr4.at 3 (by simp)
  have c4 : (wc.drewN k).cell? ⟨b, n + 4, none⟩ = some (.int .u8 (hx p)) := hr4.at 4 (by simp)
  have c5 : (wc.drewN k).cell? ⟨b, n + 5, none⟩ = some (.int .u8 (hx q)) := hr4.at 5 (by simp)
  obtain ⟨p1, p2, _, _⟩ := hx_bounds p hp
  obtain ⟨q1, q2, _, _⟩ := hx_bounds q hq
  have n34 : (hx p == 34) = false := by simp; omega
  have m34 : (hx q == 34) = false := by simp; omega
  have d32 : decide (hx p < 32) = false := by simp; omega
  have d127 : decide (127 ≤ hx p) = false := by simp; omega
  have f32 : decide (hx q < 32) = false := by simp; omega
  have f127 : decide (127 ≤ hx q) = false := by simp; omega
  generalize wc.drewN k = W at *
  go_wp2_with fail
  go_loop [8] (fun i => ∃ q : Nat, q ≤ 6 ∧ i = .int .i64 q) (fun i => 6 - (intOf i).toNat)
  case atStart => exact ⟨0, by omega, rfl⟩
  case round =>
    obtain ⟨r, hr6, rfl⟩ := hrel
    match r, hr6 with
    | 0, _ =>
      go_wp2
      exact ⟨⟨1, by omega, rfl⟩, by simp [intOf]⟩
    | 1, _ =>
      go_wp2
      exact ⟨⟨2, by omega, rfl⟩, by simp [intOf]⟩
    | 2, _ =>
      go_wp2
      exact ⟨⟨3, by omega, rfl⟩, by simp [intOf]⟩
    | 3, _ =>
      go_wp2
      exact ⟨⟨4, by omega, rfl⟩, by simp [intOf]⟩
    | 4, _ =>
      go_wp2
      exact ⟨⟨5, by omega, rfl⟩, by simp [intOf]⟩
    | 5, _ =>
      go_wp2
      exact ⟨⟨6, by omega, rfl⟩, by simp [intOf]⟩
    | 6, _ =>
      go_wp2_with fail
      refine (shortLetter_any c _).mono ?_
      rintro e we ⟨rfl, rfl⟩
      rw [HL.out]
      go_wp2_with fail
      refine (isLowerHex_any p hp _).mono ?_
      rintro e we ⟨rfl, rfl⟩
      go_wp2_with fail
      refine (isLowerHex_any q hq _).mono ?_
      rintro e we ⟨rfl, rfl⟩
      go_wp2
      go_ret
      exact ⟨rfl, fin⟩

theorem shortFormOrLowerHex (a : Option Addr) (n cap c : Nat) (ys : List Int) (w : World) (hm : n ≤ maxLen) (hy : ys.length = n) (ha : a = none → n = 0) (hr : Row8 w a ys) (hc : c < 256) :
    Calls Try.prog 4 #[.slice a n cap, .int .u8 c] w fun e w' => e = .returned (.bool true) ∧ Below w.heap.size w w' := by
  by_cases h8 : c = 8
  · subst h8
    exact shortForm a n cap 8 98 ys w hm hy ha hr hc rfl rfl (by omega) (by omega)
  by_cases h12 : c = 12
  · subst h12
    exact shortForm a n cap 12 102 ys w hm hy ha hr hc rfl rfl (by omega) (by omega)
  by_cases h10 : c = 10
  · subst h10
    exact shortForm a n cap 10 110 ys w hm hy ha hr hc rfl rfl (by omega) (by omega)
  by_cases h13 : c = 13
  · subst h13
    exact shortForm a n cap 13 114 ys w hm hy ha hr hc rfl rfl (by omega) (by omega)
  by_cases h9 : c = 9
  · subst h9
    exact shortForm a n cap 9 116 ys w hm hy ha hr hc rfl rfl (by omega) (by omega)
  exact longForm a n cap c (c / 16) (c % 16) ys w hm hy ha hr hc (esc_other h8 h12 h10 h13 h9) (by simp [letter, h8, h9, h10, h12, h13]) (by omega) (by omega)

end Go.Proofs.Qxb6001034a
