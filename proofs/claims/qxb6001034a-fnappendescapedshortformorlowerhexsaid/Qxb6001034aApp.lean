import Derived.Test.Qxb6001034aClone
import Derived.Deep.AppendSrc
import Derived.Deep.RegionHeld3
import Derived.Deep.AppendLies
namespace Go.Proofs.Qxb6001034a
open Go.RowKit

theorem bytes_getElem? (ys : List Int) (j : Nat) (u : Value) (h : (ys.map (Value.int .u8))[j]? = some u) : j < ys.length ∧ u = .int .u8 (ys.getD j 0) := by
  rw [List.getElem?_map] at h
  by_cases hj : j < ys.length
  · rw [List.getElem?_eq_getElem hj] at h
    refine ⟨hj, ?_⟩
    simp at h
    simp [hj, h]
  · rw [List.getElem?_eq_none (by omega)] at h
    cases h

/-- append, onto a slice without spare room, of whatever yields the bytes es: a new row. -/
theorem run_app (tx ty : TypeId) (a : Option Addr) (n m : Nat) (ys es : List Int) (x : Value) (w : World) (hn : n ≤ 1048576) (hm : m ≤ 64) (hm0 : 0 < m)
    (hy : ys.length = n) (hr : Row8 w a ys) (hes : es.length = m) (hs : Src Try.prog 1 tx x m (es.map (Value.int .u8)) w) :
    ∃ b cap w', (Builtin.append_ #[22, tx] ty #[.slice a n n, x]).run Try.prog w = .ok (.slice (some ⟨b, 0, none⟩) (n + m) cap) w' ∧ n + m ≤ cap ∧ Row8 w' (some ⟨b, 0, none⟩) (ys ++ es) ∧ Below w.heap.size w w' := by
  obtain ⟨i, hi, hz0, hz1, hz2⟩ := info_parts Try.info5
  have hold : (Builtin.firstCells i.size n (.slice a n n)).run Try.prog w.drew = .ok (ys.map (Value.int .u8)).toArray w.drew := by
    rcases hr with h | ⟨b, off, rfl, hc⟩
    · subst h
      simp at hy
      subst hy
      cases a with
      | none => exact run_firstCells_none _ _ _ _ _
      | some x => exact run_firstCells_some _ _ _ _ _ _ _ (by simp) (fun j v h => by simp at h)
    · refine run_firstCells_some _ _ _ _ _ _ _ (by simp [hz1, hy]) (fun j v h => ?_)
      obtain ⟨hj, rfl⟩ := bytes_getElem? _ _ _ h
      have := hc j hj
      rw [show (⟨b, off, none⟩ : Addr).add j = ⟨b, off + j, none⟩ from Addr.add_lit _ _ _]
      exact this
  have hs' : Src Try.prog i.size tx x m (es.map (Value.int .u8)) w := by rw [hz1]; exact hs
  have h := run_append_grow_src (P := Try.prog) w 22 tx ty 5 i (.int .u8 0) Try.underlying22 hi hz0 a n n (ys.map (Value.int .u8)) hold x m (es.map (Value.int .u8)) hs' (by omega) (by omega)
    (by rw [hz2]; exact growslice_fits (by omega) (by omega))
  refine ⟨_, _, _, h, grownCap_ge _ _ _ _, .inr ⟨_, _, rfl, fun j hj => ?_⟩, ?_⟩
  · show (w.drew.alloc _).cell? ⟨w.drew.heap.size, 0 + j, none⟩ = _
    rw [World.cell?_alloc_new, Nat.zero_add]
    rw [← List.map_append]
    have hj' : j < (((ys ++ es).map (Value.int .u8)).toArray).size := by simpa using hj
    rw [Array.getElem?_append_left hj', List.getElem?_toArray, List.getElem?_map, List.getElem?_eq_getElem hj]
    simp [List.getD, List.getElem?_eq_getElem hj]
  · exact (Below.refl _ _).drew.alloc (Nat.le_refl _) _

theorem held_start {w : World} {a : Option Addr} {ys : List Int} (hr : Row8 w a ys) : Row8 w.drew a ys ∧ Below w.heap.size w w.drew :=
  ⟨hr.below (Below.refl _ _).drew, (Below.refl _ _).drew⟩

theorem held_alloc {w w' : World} {a : Option Addr} {ys : List Int} (o : Obj) (h : Row8 w' a ys ∧ Below w.heap.size w w') : Row8 (w'.alloc o) a ys ∧ Below w.heap.size w (w'.alloc o) :=
  ⟨h.1.below ((Below.refl _ _).alloc (Nat.le_refl _) _), h.2.alloc h.2.size _⟩

theorem held_step {w w' w1 : World} {a : Option Addr} {ys : List Int} (h : Row8 w' a ys ∧ Below w.heap.size w w') (hb : Below w'.heap.size w' w1) : Row8 w1 a ys ∧ Below w.heap.size w w1 :=
  ⟨h.1.below hb, h.2.trans (hb.mono h.2.size)⟩

/-- The hexadecimal digit d, as a byte. -/
def hx (d : Nat) : Int := if d < 10 then 48 + d else 87 + d

theorem and15 : ∀ p : Nat, p < 256 → bits .and .i32 (p : Int) 15 = ((p % 16 : Nat) : Int) := by decide +kernel

theorem digit : ∀ d : Nat, (hd : d < 16) → ((({ data := #[48, 49, 50, 51, 52, 53, 54, 55, 56, 57, 97, 98, 99, 100, 101, 102] } : ByteArray)[d]'hd).toNat : Int) = hx d := by decide +kernel

theorem idx (d : Nat) (hd : d < 16) (w : World) : (Instr.index 9 (.string { data := #[48, 49, 50, 51, 52, 53, 54, 55, 56, 57, 97, 98, 99, 100, 101, 102] }) (.int .i32 (d : Int))).run Try.prog w = .ok (.int .u8 (hx d)) w := by
  have h : (d : Int) < 16 := by omega
  go_simp
  exact digit d hd

/-- The append as a step of a region that draws its order. -/
theorem step_app {ops : Array Oper} {o : Oper} {act : Act} {K : Act → World → Prop} {Q : Exit → Act → World → Prop} {E : Prop} (w : World) (hgd : o.guard = none) (s x : Operand) (tx : TypeId)
    (ho : o.op = .call { callee := .builtin .append, args := #[s, x], argTypes := #[22, tx] })
    (a : Option Addr) (n m : Nat) (ys es : List Int) (v : Value) (hs : act.eval s = .slice a n n) (hx : act.eval x = v) (hn : n ≤ 1048576) (hm : m ≤ 64) (hm0 : 0 < m)
    (hy : ys.length = n) (hr : Row8 w a ys) (hes : es.length = m) (hsrc : Src Try.prog 1 tx v m (es.map (Value.int .u8)) w)
    (h : ∀ b cap w', n + m ≤ cap → Row8 w' (some ⟨b, 0, none⟩) (ys ++ es) → Below w.heap.size w w' → K (act.put o.dst (.slice (some ⟨b, 0, none⟩) (n + m) cap)) w') :
    if Region.wanted o (yielded ops act.tmps) = true then Oper.wp Try.prog o act w K Q else E := by
  have hw : Region.wanted o (yielded ops act.tmps) = true := by simp [Region.wanted, hgd]
  rw [if_pos hw]
  obtain ⟨b, cap, w', hrun, h1, h2, h3⟩ := run_app tx o.type a n m ys es v w hn hm hm0 hy hr hes hsrc
  unfold Oper.wp execOp
  simp only [ho, resolve, invoke, builtin, Sem.run_bind, Sem.run_pure, Result.andThen_ok, List.map_toArray, List.map_cons, List.map_nil, hs, hx, hrun]
  exact h b cap w' h1 h2 h3

/-- The append at the list of a plain region's operations. -/
theorem wpList_app {ops : Array Oper} {rest : List Oper} {o : Oper} {act : Act} {Q : Exit → Act → World → Prop} (w : World) (hgd : o.guard = none) (s x : Operand) (tx : TypeId)
    (ho : o.op = .call { callee := .builtin .append, args := #[s, x], argTypes := #[22, tx] })
    (a : Option Addr) (n m : Nat) (ys es : List Int) (v : Value) (hs : act.eval s = .slice a n n) (hx : act.eval x = v) (hn : n ≤ 1048576) (hm : m ≤ 64) (hm0 : 0 < m)
    (hy : ys.length = n) (hr : Row8 w a ys) (hes : es.length = m) (hsrc : Src Try.prog 1 tx v m (es.map (Value.int .u8)) w)
    (h : ∀ b cap w', n + m ≤ cap → Row8 w' (some ⟨b, 0, none⟩) (ys ++ es) → Below w.heap.size w w' → wpList Try.prog ops Q rest (act.put o.dst (.slice (some ⟨b, 0, none⟩) (n + m) cap)) w') :
    wpList Try.prog ops Q (o :: rest) act w :=
  wpList_plain hgd fun K hK => by
    obtain ⟨b, cap, w', hrun, h1, h2, h3⟩ := run_app tx o.type a n m ys es v w hn hm hm0 hy hr hes hsrc
    unfold Oper.wp execOp
    simp only [ho, resolve, invoke, builtin, Sem.run_bind, Sem.run_pure, Result.andThen_ok, List.map_toArray, List.map_cons, List.map_nil, hs, hx, hrun]
    exact hK _ _ (h b cap w' h1 h2 h3)

/-- What the six bytes of a built slice yield. -/
theorem src6 (w : World) (B : Nat) (x0 x1 x2 x3 x4 x5 : Int) (hB : w.heap[B]? = some (.cells #[.int .u8 x0, .int .u8 x1, .int .u8 x2, .int .u8 x3, .int .u8 x4, .int .u8 x5] 5)) :
    Src Try.prog 1 22 (.slice (some ⟨B, 0, none⟩) 6 6) 6 ([x0, x1, x2, x3, x4, x5].map (Value.int .u8)) w :=
  Src.ofSlice w Try.underlying22 _ 6 6 _ rfl (World.news_of_block hB) (by simp [Value.oneCell'])

set_option maxHeartbeats 1000000 in
theorem uni (a : Option Addr) (n : Nat) (c : Int) (p q : Nat) (ys : List Int) (w : World) (hn : n ≤ 1048576) (hy : ys.length = n) (hr : Row8 w a ys) (hp : p < 16) (hq : q < 16) (hc : c = 16 * p + q) :
    Calls Try.prog 20 #[.slice a n n, .int .i32 c] w fun e w' => ∃ b cap, e = .returned (.slice (some ⟨b, 0, none⟩) (n + 6) cap) ∧ n + 6 ≤ cap ∧ Row8 w' (some ⟨b, 0, none⟩) (ys ++ [92, 117, 48, 48, hx p, hx q]) ∧ Below w.heap.size w w' := by
  have h0 : 0 ≤ c := by omega
  have h1 : c ≤ 255 := by omega
  have e1 : c / 4096 = 0 := by omega
  have e2 : c / 256 = 0 := by omega
  have e3 : c / 16 = p := by omega
  have b0 : bits .and .i32 0 15 = 0 := by decide
  have bp : bits .and .i32 p 15 = p := by rw [and15 p (by omega), Nat.mod_eq_of_lt hp]
  have bq : bits .and .i32 c 15 = q := by
    rw [show c = ((16 * p + q : Nat) : Int) from by omega, and15 _ (by omega)]
    omega
  have i0 : ∀ w, (Instr.index 9 (.string { data := #[48, 49, 50, 51, 52, 53, 54, 55, 56, 57, 97, 98, 99, 100, 101, 102] }) (.int .i32 0)).run Try.prog w = .ok (.int .u8 48) w := idx 0 (by omega)
  have ip := idx p hp
  have iq := idx q hq
  clear hc
  go_enter Try.func20, Try.ntmps20
  go_wp2
  go_region_held3 (fun w' => Row8 w' a ys ∧ Below w.heap.size w w') (first | exact held_start hr | exact held_alloc _ (by assumption) | assumption | exact held_step (by assumption) (by assumption))
    (first | (refine step_app _ rfl (.tmp 5) (.tmp 21) 22 rfl a n 6 ys [92, 117, 48, 48, hx p, hx q] (.slice (some ⟨w.heap.size, 0, none⟩) 6 6) (by simp [Act.eval]) (by simp [Act.eval]) hn (by omega) (by omega) hy (by exact (‹Row8 _ a ys ∧ Below w.heap.size w _›).1) rfl (src6 _ w.heap.size _ _ _ _ _ _ (by exact heap_alloc_new w _)) ?_; intro b cap w1 hcap hrow hbel))
  all_goals
    go_wp2
    go_ret
    exact ⟨b, cap, rfl, hcap, hrow, (‹Row8 w1 a ys ∧ Below w.heap.size w w1›).2⟩
end Go.Proofs.Qxb6001034a
