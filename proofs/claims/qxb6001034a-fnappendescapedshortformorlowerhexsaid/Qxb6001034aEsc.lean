import Derived.Test.Qxb6001034aApp
namespace Go.Proofs.Qxb6001034a
open Go.RowKit

/-- The escape of the byte c. -/
def esc (c : Nat) : List Int :=
  if c = 8 then [92, 98] else if c = 12 then [92, 102] else if c = 10 then [92, 110] else if c = 13 then [92, 114] else if c = 9 then [92, 116]
  else [92, 117, 48, 48, hx (c / 16), hx (c % 16)]

theorem esc_other {c : Nat} (h8 : c ≠ 8) (h12 : c ≠ 12) (h10 : c ≠ 10) (h13 : c ≠ 13) (h9 : c ≠ 9) : esc c = [92, 117, 48, 48, hx (c / 16), hx (c % 16)] := by
  simp [esc, h8, h12, h10, h13, h9]

theorem src2 (w : World) (x y : UInt8) : Src Try.prog 1 9 (.string ⟨#[x, y]⟩) 2 ([(x.toNat : Int), (y.toNat : Int)].map (Value.int .u8)) w :=
  Src.ofString w Try.underlying9 ⟨#[x, y]⟩

/-- What the callers are told of the escaped slice. -/
def Out (w : World) (n : Nat) (ys es : List Int) (e : Ending) (w' : World) : Prop :=
  ∃ b cap, e = .returned (.slice (some ⟨b, 0, none⟩) (n + es.length) cap) ∧ n + es.length ≤ cap ∧ Row8 w' (some ⟨b, 0, none⟩) (ys ++ es) ∧ Below w.heap.size w w'

set_option maxHeartbeats 1000000 in
theorem appendEscaped_any (a : Option Addr) (n c : Nat) (ys : List Int) (w : World) (hn : n ≤ 1048576) (hy : ys.length = n) (hr : Row8 w a ys) (hc : c < 256) :
    Calls Try.prog 17 #[.slice a n n, .int .u8 c] w fun e w' => Out w n ys (esc c) e w' := by
  by_cases h8 : c = 8
  · subst h8
    go_enter Try.func17, Try.ntmps17
    go_wp2_with (at_builtin; refine wpList_app _ rfl _ _ 9 rfl a n 2 ys [92, 98] (.string ⟨#[92, 98]⟩) rfl rfl hn (by omega) (by omega) hy hr rfl (src2 _ 92 98) ?_; intro b cap w1 hcap hrow hbel)
    go_ret
    exact ⟨b, cap, rfl, hcap, hrow, hbel⟩
  by_cases h12 : c = 12
  · subst h12
    go_enter Try.func17, Try.ntmps17
    go_wp2_with (at_builtin; refine wpList_app _ rfl _ _ 9 rfl a n 2 ys [92, 102] (.string ⟨#[92, 102]⟩) rfl rfl hn (by omega) (by omega) hy hr rfl (src2 _ 92 102) ?_; intro b cap w1 hcap hrow hbel)
    go_ret
    exact ⟨b, cap, rfl, hcap, hrow, hbel⟩
  by_cases h10 : c = 10
  · subst h10
    go_enter Try.func17, Try.ntmps17
    go_wp2_with (at_builtin; refine wpList_app _ rfl _ _ 9 rfl a n 2 ys [92, 110] (.string ⟨#[92, 110]⟩) rfl rfl hn (by omega) (by omega) hy hr rfl (src2 _ 92 110) ?_; intro b cap w1 hcap hrow hbel)
    go_ret
    exact ⟨b, cap, rfl, hcap, hrow, hbel⟩
  by_cases h13 : c = 13
  · subst h13
    go_enter Try.func17, Try.ntmps17
    go_wp2_with (at_builtin; refine wpList_app _ rfl _ _ 9 rfl a n 2 ys [92, 114] (.string ⟨#[92, 114]⟩) rfl rfl hn (by omega) (by omega) hy hr rfl (src2 _ 92 114) ?_; intro b cap w1 hcap hrow hbel)
    go_ret
    exact ⟨b, cap, rfl, hcap, hrow, hbel⟩
  by_cases h9 : c = 9
  · subst h9
    go_enter Try.func17, Try.ntmps17
    go_wp2_with (at_builtin; refine wpList_app _ rfl _ _ 9 rfl a n 2 ys [92, 116] (.string ⟨#[92, 116]⟩) rfl rfl hn (by omega) (by omega) hy hr rfl (src2 _ 92 116) ?_; intro b cap w1 hcap hrow hbel)
    go_ret
    exact ⟨b, cap, rfl, hcap, hrow, hbel⟩
  rw [esc_other h8 h12 h10 h13 h9]
  have g8 : ((c : Int) == 8) = false := by simp; omega
  have g12 : ((c : Int) == 12) = false := by simp; omega
  have g10 : ((c : Int) == 10) = false := by simp; omega
  have g13 : ((c : Int) == 13) = false := by simp; omega
  have g9 : ((c : Int) == 9) = false := by simp; omega
  clear h8 h12 h10 h13 h9
  go_enter Try.func17, Try.ntmps17
  go_wp2_with fail
  refine (uni a n _ (c / 16) (c % 16) ys _ hn hy hr (by omega) (by omega) (by omega)).mono ?_
  rintro e w1 ⟨b, cap, rfl, hcap, hrow, hbel⟩
  go_wp2
  go_ret
  exact ⟨b, cap, rfl, hcap, hrow, hbel⟩

theorem zzAppend_any (a : Option Addr) (n c : Nat) (ys : List Int) (w : World) (hn : n ≤ 1048576) (hy : ys.length = n) (hr : Row8 w a ys) (hc : c < 256) :
    Calls Try.prog 10 #[.slice a n n, .int .u8 c] w fun e w' => Out w n ys (esc c) e w' := by
  go_enter Try.func10, Try.ntmps10
  go_wp2_with fail
  refine (appendEscaped_any a n c ys _ hn hy hr hc).mono ?_
  rintro e w1 ⟨b, cap, rfl, hcap, hrow, hbel⟩
  go_wp2
  go_ret
  exact ⟨b, cap, rfl, hcap, hrow, hbel⟩

/-- 'hasPrefixB1' where the second slice's bytes open the first's. -/
theorem hasPrefix_any (b b2 : Option Addr) (n m cap cap2 : Nat) (ys es : List Int) (w : World) (hn : n ≤ 1048576) (hm : m = n + es.length) (hes : es.length ≤ 64) (hy : ys.length = n) (hr : Row8 w b (ys ++ es)) (hr2 : Row8 w b2 ys) :
    Calls Try.prog 11 #[.slice b m cap, .slice b2 n cap2] w fun e w' => e = .returned (.bool true) ∧ ∃ k, w' = w.drewN k := by
  have hge : n ≤ m := by omega
  have hgi : (n : Int) ≤ (m : Int) := by omega
  have hd : decide ((m : Int) < (n : Int)) = false := by simp; omega
  have hmx : m ≤ 1048640 := by omega
  clear hm
  go_enter Try.func11, Try.ntmps11
  go_wp2
  go_loopw [5] (fun i wr => ∃ k : Nat, k ≤ n ∧ i = .int .i64 k ∧ ∃ q, wr = w.drewN q) (fun i _ => n - (intOf i).toNat)
  case atStart => exact ⟨0, Nat.zero_le _, rfl, 0, rfl⟩
  case round =>
    obtain ⟨k, hk, rfl, q, rfl⟩ := hrel
    by_cases hlt : k < n
    · rcases hr with h | ⟨c1, o1, rfl, hc1⟩
      · exfalso
        have := congrArg List.length h
        rw [List.length_append, List.length_nil] at this
        omega
      rcases hr2 with h | ⟨c2, o2, rfl, hc2⟩
      · exfalso
        have := congrArg List.length h
        rw [List.length_nil] at this
        omega
      have g1 := hc1 k (by rw [List.length_append]; omega)
      have g2 := hc2 k (by omega)
      have e1 : (ys ++ es).getD k 0 = ys.getD k 0 := by
        simp [List.getD, List.getElem?_append_left (show k < ys.length by omega)]
      rw [e1] at g1
      generalize ys.getD k 0 = z at g1 g2
      have l1 : (k : Int) < (m : Int) := by omega
      have l2 : (k : Int) < (n : Int) := by omega
      clear hc1 hc2 e1
      go_wp2
      go_quiet (fail)
      go_wp2
      exact ⟨⟨k + 1, by omega, by go_num, _, rfl⟩, by simp [intOf]; omega⟩
    · go_wp2
      go_ret
      exact ⟨rfl, q, rfl⟩

theorem hx_bounds : ∀ d : Nat, d < 16 → 48 ≤ hx d ∧ hx d ≤ 102 ∧ (d < 10 → hx d = 48 + d ∧ hx d ≤ 57) ∧ (10 ≤ d → hx d = 87 + d ∧ 97 ≤ hx d) := by
  intro d hd
  unfold hx
  split <;> omega

theorem ret_tup {a b : Int} (h : a = b) : Ending.returned (.tuple #[.int .i64 a, .bool true]) = .returned (.tuple #[.int .i64 b, .bool true]) := by rw [h]
theorem ret_tup8 {a b : Int} (h : a = b) : Ending.returned (.tuple #[.int .u8 a, .bool true]) = .returned (.tuple #[.int .u8 b, .bool true]) := by rw [h]

/-- 'hexValB1' at a digit. -/
theorem hexVal_any (d : Nat) (hd : d < 16) (w : World) :
    Calls Try.prog 18 #[.int .u8 (hx d)] w fun e w' => e = .returned (.tuple #[.int .i64 d, .bool true]) ∧ w' = w := by
  obtain ⟨h1, h2, h3, h4⟩ := hx_bounds d hd
  by_cases h : d < 10
  · obtain ⟨g1, g2⟩ := h3 h
    clear h3 h4
    have G : Hid (hx d = 48 + d) := g1
    clear g1
    generalize hx d = z at *
    go_enter Try.func18, Try.ntmps18
    go_wp2
    go_ret2
    exact ⟨ret_tup (by have := G.out; omega), rfl⟩
  · obtain ⟨g1, g2⟩ := h4 (by omega)
    clear h3 h4
    have G : Hid (hx d = 87 + d) := g1
    clear g1
    generalize hx d = z at *
    go_enter Try.func18, Try.ntmps18
    go_wp2
    go_ret2
    exact ⟨ret_tup (by have := G.out; omega), rfl⟩

theorem Row8.at {w : World} {b off : Nat} {ys : List Int} (h : Row8 w (some ⟨b, off, none⟩) ys) (i : Nat) (hi : i < ys.length) : w.cell? ⟨b, off + i, none⟩ = some (.int .u8 (ys.getD i 0)) := by
  rcases h with h | ⟨b', off', e, hc⟩
  · subst h; cases hi
  · have e' : (⟨b, off, none⟩ : Addr) = ⟨b', off', none⟩ := by simpa using e
    have h1 := congrArg Addr.block e'
    have h2 := congrArg Addr.off e'
    simp at h1 h2
    subst h1 h2
    exact hc i hi

/-- 'decodeOneEscapeB1' at a short escape. -/
theorem decode_short (l r : Int) (hl : (l = 98 ∧ r = 8) ∨ (l = 102 ∧ r = 12) ∨ (l = 110 ∧ r = 10) ∨ (l = 114 ∧ r = 13) ∨ (l = 116 ∧ r = 9)) (b off cap : Nat) (w : World)
    (h0 : w.cell? ⟨b, off, none⟩ = some (.int .u8 92)) (h1 : w.cell? ⟨b, off + 1, none⟩ = some (.int .u8 l)) :
    Calls Try.prog 12 #[.slice (some ⟨b, off, none⟩) 2 cap] w fun e w' => e = .returned (.tuple #[.int .u8 r, .bool true]) ∧ w' = w := by
  rcases hl with ⟨rfl, rfl⟩ | ⟨rfl, rfl⟩ | ⟨rfl, rfl⟩ | ⟨rfl, rfl⟩ | ⟨rfl, rfl⟩
  all_goals
    go_enter Try.func12, Try.ntmps12
    go_wp2
    go_ret2
    exact ⟨rfl, rfl⟩

/-- The value behind k digits. -/
def val (p q k : Nat) : Int := if k ≤ 2 then 0 else if k = 3 then p else 16 * p + q

set_option maxHeartbeats 400000 in
/-- 'decodeOneEscapeB1' at a long one. -/
theorem decode_long (p q : Nat) (hp : p < 16) (hq : q < 16) (b off cap : Nat) (w : World)
    (h0 : w.cell? ⟨b, off, none⟩ = some (.int .u8 92)) (h1 : w.cell? ⟨b, off + 1, none⟩ = some (.int .u8 117)) (h2 : w.cell? ⟨b, off + 2, none⟩ = some (.int .u8 48)) (h3 : w.cell? ⟨b, off + 3, none⟩ = some (.int .u8 48))
    (h4 : w.cell? ⟨b, off + 4, none⟩ = some (.int .u8 (hx p))) (h5 : w.cell? ⟨b, off + 5, none⟩ = some (.int .u8 (hx q))) :
    Calls Try.prog 12 #[.slice (some ⟨b, off, none⟩) 6 cap] w fun e w' => e = .returned (.tuple #[.int .u8 (16 * p + q), .bool true]) ∧ w' = w := by
  go_enter Try.func12, Try.ntmps12
  go_wp2
  go_loop [4, 5, 6, 7] (fun v i h ok => ∃ k : Nat, k ≤ 4 ∧ i = .int .i64 (2 + k : Nat) ∧ v = .int .i64 (val p q k)) (fun _ i _ _ => 6 - (intOf i).toNat)
  case atStart => exact ⟨0, by omega, rfl, rfl⟩
  case round =>
    obtain ⟨k, hk, rfl, rfl⟩ := hrel
    match k, hk with
    | 0, _ =>
      rw [show val p q 0 = 0 from rfl]
      go_wp2_with (go_at_call 18; refine (hexVal_any 0 (by omega) _).mono ?_; rintro e w' ⟨rfl, rfl⟩)
      exact ⟨⟨1, by omega, rfl, rfl⟩, by simp [intOf]⟩
    | 1, _ =>
      rw [show val p q 1 = 0 from rfl]
      go_wp2_with (go_at_call 18; refine (hexVal_any 0 (by omega) _).mono ?_; rintro e w' ⟨rfl, rfl⟩)
      exact ⟨⟨2, by omega, rfl, rfl⟩, by simp [intOf]⟩
    | 2, _ =>
      rw [show val p q 2 = 0 from rfl]
      go_wp2_with (go_at_call 18; refine (hexVal_any p hp _).mono ?_; rintro e w' ⟨rfl, rfl⟩)
      exact ⟨⟨3, by omega, rfl, by simp [val]⟩, by simp [intOf]⟩
    | 3, _ =>
      rw [show val p q 3 = p from rfl]
      go_wp2_with (go_at_call 18; refine (hexVal_any q hq _).mono ?_; rintro e w' ⟨rfl, rfl⟩)
      exact ⟨⟨4, by omega, rfl, by simp [val]; omega⟩, by simp [intOf]⟩
    | 4, _ =>
      rw [show val p q 4 = 16 * p + q from rfl]
      go_wp2
      go_ret2
      exact ⟨rfl, rfl⟩

/-- 'decodeOneEscapeB1' at the escape of c. -/
theorem decode_any (c : Nat) (hc : c < 256) (b off cap : Nat) (w : World) (hr : Row8 w (some ⟨b, off, none⟩) (esc c)) :
    Calls Try.prog 12 #[.slice (some ⟨b, off, none⟩) (esc c).length cap] w fun e w' => e = .returned (.tuple #[.int .u8 c, .bool true]) ∧ w' = w := by
  by_cases h8 : c = 8
  · subst h8
    exact decode_short 98 8 (by omega) b off cap w (hr.at 0 (by decide)) (hr.at 1 (by decide))
  by_cases h12 : c = 12
  · subst h12
    exact decode_short 102 12 (by omega) b off cap w (hr.at 0 (by decide)) (hr.at 1 (by decide))
  by_cases h10 : c = 10
  · subst h10
    exact decode_short 110 10 (by omega) b off cap w (hr.at 0 (by decide)) (hr.at 1 (by decide))
  by_cases h13 : c = 13
  · subst h13
    exact decode_short 114 13 (by omega) b off cap w (hr.at 0 (by decide)) (hr.at 1 (by decide))
  by_cases h9 : c = 9
  · subst h9
    exact decode_short 116 9 (by omega) b off cap w (hr.at 0 (by decide)) (hr.at 1 (by decide))
  rw [esc_other h8 h12 h10 h13 h9] at hr ⊢
  have h := decode_long (c / 16) (c % 16) (by omega) (by omega) b off cap w (hr.at 0 (by simp)) (hr.at 1 (by simp)) (hr.at 2 (by simp)) (hr.at 3 (by simp)) (hr.at 4 (by simp)) (hr.at 5 (by simp))
  rw [show (16 * ((c / 16 : Nat) : Int) + ((c % 16 : Nat) : Int)) = (c : Int) from by omega] at h
  exact h

end Go.Proofs.Qxb6001034a
