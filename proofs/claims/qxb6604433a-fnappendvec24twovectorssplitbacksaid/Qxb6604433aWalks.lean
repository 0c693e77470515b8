import Derived.Test.Qxb6604433aLaws
import Derived.Deep.QuietTactic
import Derived.BigQuiet
import Derived.WalkLawsBesides
namespace Go.Proofs.Qxb6604433a
open Go.RowKit

theorem below_drewN {w w' : World} (h : ∃ n, w' = w.drewN n) : Below w.heap.size w w' := by
  obtain ⟨n, rfl⟩ := h
  induction n with
  | zero => exact Below.refl _ _
  | succ n ih => exact ih.drew

set_option maxHeartbeats 800000 in
theorem eq_cells (b1 o1 b2 o2 n c1 c2 : Nat) (L : List Int) (w : World) (hn : n ≤ 16777216) (h1 : ∀ i, i < n → w.cell? ⟨b1, o1 + i, none⟩ = some (.int .u8 (L.getD i 0))) (h2 : ∀ i, i < n → w.cell? ⟨b2, o2 + i, none⟩ = some (.int .u8 (L.getD i 0))) :
    Calls Try.prog 13 #[.slice (some ⟨b1, o1, none⟩) n c1, .slice (some ⟨b2, o2, none⟩) n c2] w fun e w' => e = .returned (.bool true) ∧ ∃ m, w' = w.drewN m := by
  go_enter Try.func13, Try.ntmps13
  go_wp2
  go_loopw [5] (fun i wr => ∃ k : Nat, k ≤ n ∧ i = .int .i64 k ∧ ∃ m, wr = w.drewN m) (fun i _ => n - (intOf i).toNat)
  case atStart => exact ⟨0, Nat.zero_le _, rfl, 0, rfl⟩
  case round =>
    obtain ⟨k, hk, rfl, m, rfl⟩ := hrel
    by_cases hlt : k < n
    · have g1 := h1 k hlt
      have g2 := h2 k hlt
      have hlt' : (k : Int) < (n : Int) := by omega
      clear h1 h2
      go_wp2
      go_quiet (fail)
      go_wp2
      exact ⟨⟨k + 1, by omega, by go_num, _, rfl⟩, by simp [intOf]; omega⟩
    · go_wp2
      go_ret
      exact ⟨rfl, m, rfl⟩

set_option maxHeartbeats 800000 in
theorem eq_none (a1 a2 : Option Addr) (c1 c2 : Nat) (w : World) :
    Calls Try.prog 13 #[.slice a1 0 c1, .slice a2 0 c2] w fun e w' => e = .returned (.bool true) ∧ ∃ m, w' = w.drewN m := by
  go_enter Try.func13, Try.ntmps13
  go_wp2
  refine wp_loop_rounds 1 ?_
  rw [rounds_succ]
  go_wp2
  go_ret
  exact ⟨rfl, 0, rfl⟩

/-- zzEq at two slices that hold the same bytes: true. -/
theorem eq_any (a1 a2 : Option Addr) (n c1 c2 : Nat) (L : List Int) (w : World) (hn : n ≤ 16777216)
    (h : 0 < n → ∃ b1 o1 b2 o2, a1 = some ⟨b1, o1, none⟩ ∧ a2 = some ⟨b2, o2, none⟩ ∧ (∀ i, i < n → w.cell? ⟨b1, o1 + i, none⟩ = some (.int .u8 (L.getD i 0))) ∧ ∀ i, i < n → w.cell? ⟨b2, o2 + i, none⟩ = some (.int .u8 (L.getD i 0))) :
    Calls Try.prog 13 #[.slice a1 n c1, .slice a2 n c2] w fun e w' => e = .returned (.bool true) ∧ ∃ m, w' = w.drewN m := by
  by_cases h0 : 0 < n
  · obtain ⟨b1, o1, b2, o2, rfl, rfl, h1, h2⟩ := h h0
    exact eq_cells b1 o1 b2 o2 n c1 c2 L w hn h1 h2
  · obtain rfl : n = 0 := by omega
    exact eq_none a1 a2 c1 c2 w

theorem ret_int {k : IntKind} {a b : Int} (h : a = b) : Ending.returned (.int k a) = .returned (.int k b) := by rw [h]

theorem wraps_i64 (n : Int) (h0 : 0 ≤ n) (h1 : n < 2 ^ 31) : IntKind.i64.wrap n = n := by rw [IntKind.wrap_i64]; omega

theorem u24_bits (z0 z1 z2 : Int) (b0 : 0 ≤ z0 ∧ z0 ≤ 255) (b1 : 0 ≤ z1 ∧ z1 ≤ 255) (b2 : 0 ≤ z2 ∧ z2 ≤ 255) :
    bits .or .i64 (bits .or .i64 (z0 * 65536) (z1 * 256)) z2 = z0 * 65536 + z1 * 256 + z2 := by
  rw [bits_join .i64 31 (by decide) wraps_i64 16 (z0 * 65536) (z1 * 256) (by omega) (by omega) (by omega) (by omega) (by omega) (by omega)]
  rw [bits_join .i64 31 (by decide) wraps_i64 8 (z0 * 65536 + z1 * 256) z2 (by omega) (by omega) (by omega) (by omega) (by omega) (by omega)]

set_option maxHeartbeats 800000 in
theorem u24_any (b o n c p : Nat) (z0 z1 z2 : Int) (w : World) (hn : n ≤ 16777216) (hp : p + 3 ≤ n) (g0 : w.cell? ⟨b, o + p, none⟩ = some (.int .u8 z0)) (g1 : w.cell? ⟨b, o + (p + 1), none⟩ = some (.int .u8 z1)) (g2 : w.cell? ⟨b, o + (p + 2), none⟩ = some (.int .u8 z2))
    (b0 : 0 ≤ z0 ∧ z0 ≤ 255) (b1 : 0 ≤ z1 ∧ z1 ≤ 255) (b2 : 0 ≤ z2 ∧ z2 ≤ 255) :
    Calls Try.prog 14 #[.slice (some ⟨b, o, none⟩) n c, .int .i64 p] w fun e w' => e = .returned (.int .i64 (z0 * 65536 + z1 * 256 + z2)) ∧ ∃ m, w' = w.drewN m := by
  have e0 : (p : Int) < (n : Int) := by omega
  have e1 : (p : Int) + 1 < (n : Int) := by omega
  have e2 : (p : Int) + 2 < (n : Int) := by omega
  go_enter Try.func14, Try.ntmps14
  go_wp2
  go_quiet (fail)
  go_wp2
  go_ret
  exact ⟨ret_int (u24_bits z0 z1 z2 b0 b1 b2), nq, rfl⟩

theorem clone_nil (w : World) : Calls Try.prog 11 #[.slice none 0 0] w fun e w' => e = .returned (.slice none 0 0) ∧ w' = w := by
  have hnil := fun w : World => Lib.run_eql_slice_nil (P := Try.prog) w 22 5 none 0 0 0 0 Try.underlying22
  go_enter Try.func11, Try.ntmps11
  go_wp2
  go_ret
  exact ⟨rfl, rfl⟩

set_option maxHeartbeats 800000 in
theorem clone_some (ad : Addr) (n c : Nat) (L : List Int) (w : World) (hl : L.length = n) (hn : n ≤ 16777216) (hcell : ∀ i, i < n → w.cell? (ad.add i) = some (.int .u8 (L.getD i 0))) :
    Calls Try.prog 11 #[.slice (some ad) n c] w fun e w' => ∃ v, e = .returned v ∧ Own w' v L ∧ w.grownBy w' none ∧ ∀ k, v.ownBlock = some k → w.heap.size ≤ k := by
  obtain ⟨i0, hi, hz0, hz1, hz2⟩ := info_parts Try.info5
  have hsz : (Try.prog.info? 5).map (·.size) = some 1 := by rw [hi]; simp [hz1]
  have hnil := fun w : World => Lib.run_eql_slice_nil (P := Try.prog) w 22 5 (some ad) n c 0 0 Try.underlying22
  go_enter Try.func11, Try.ntmps11
  go_wp2_with (at_make; refine wpList_make_full _ rfl (.tmp 7) (.tmp 7) 22 rfl w.heap.size 5 i0 (.int .u8 0) 1 Try.underlying22 hi hz0 hz1 _ _ _ _ n rfl rfl rfl rfl ?c1 ?c2 ?c3 ?_)
  case c1 => rw [hz2]; omega
  case c2 => unfold maxLen; omega
  case c3 => exact Nat.le_refl _
  intro w1 hown hgrow
  obtain ⟨cur, hcur, hsize⟩ : ∃ cur : Array Value, w1.heap[w.heap.size]? = some (.cells cur 5 (0, 0)) ∧ cur.size = n := by
    rcases hown.2 with ⟨h, _⟩ | ⟨g, cap, cur, h1, _, h2, _, _, h3, _⟩
    · cases h
    · simp only [Value.slice.injEq, Option.some.injEq, Addr.mk.injEq] at h1
      obtain ⟨⟨rfl, _⟩, _, rfl⟩ := h1
      exact ⟨cur, h2, by simpa using h3⟩
  have Hcur := hide hcur
  have Hgrow := hide hgrow
  have Hcell := hide hcell
  clear hcur hown hgrow hcell hnil
  have hb1 : Below w.heap.size w w1 := grownBy_below Hgrow.out (Nat.le_refl _) (by simp)
  have hsrc : Hid (∀ j v, (L.map (Value.int .u8))[j]? = some v → w1.cell? (ad.add j) = some v) := by
    intro j v hj
    obtain ⟨hj, rfl⟩ := getD_of_map hj
    exact cell_later hb1 (Hcell.out j (by omega))
  go_wp2_with (refine wpList_copy_splice rfl (.tmp 9) (.tmp 10) 22 22 rfl 5 Try.underlying22 hsz (some ⟨w.heap.size, 0, none⟩) (some ad) n n n c rfl rfl w.heap.size 0 cur.toList 5 (by simpa using Hcur.out) (L.map (Value.int .u8)) (by simp [hl]) (fun _ => ⟨rfl, ad, rfl, hsrc.out⟩) (by simp [hl, hsize]) (ints_oneCell _ _) w.heap.size w hb1 (Nat.le_refl _) ?_)
  intro w2 hg2 hb2
  go_wp2
  go_ret
  have e2 : splice cur.toList 0 (L.map (Value.int .u8)) = L.map (Value.int .u8) := by simp [splice, hl, hsize]
  have hg3 := hg2.out
  rw [e2] at hg3
  refine ⟨_, rfl, ⟨by simp, .inr ⟨w.heap.size, n, _, by rw [hl]; rfl, Nat.zero_le _, hg3, by omega, by unfold maxLen; omega, by simp [hl], by rw [List.take_of_length_le (by simp)]⟩⟩, below_grownBy hb2 _, fun k hk => ?_⟩
  cases hk
  exact Nat.le_refl _

/-- zzClone at whatever slice of bytes: what comes back holds the same bytes in a row of its own. -/
theorem clone_any (ao : Option Addr) (n c : Nat) (L : List Int) (w : World) (hl : L.length = n) (hn : n ≤ 16777216) (hnone : ao = none → n = 0 ∧ c = 0) (hcell : ∀ ad, ao = some ad → ∀ i, i < n → w.cell? (ad.add i) = some (.int .u8 (L.getD i 0))) :
    Calls Try.prog 11 #[.slice ao n c] w fun e w' => ∃ v, e = .returned v ∧ Own w' v L ∧ w.grownBy w' none ∧ ∀ k, v.ownBlock = some k → w.heap.size ≤ k := by
  cases ao with
  | none =>
    obtain ⟨rfl, rfl⟩ := hnone rfl
    obtain rfl : L = [] := List.eq_nil_of_length_eq_zero hl
    refine (clone_nil w).mono ?_
    rintro e w' ⟨rfl, rfl⟩
    exact ⟨_, rfl, own_nil _, World.grownBy.refl _ _, fun k hk => by cases hk⟩
  | some ad => exact clone_some ad n c L w hl hn (hcell ad rfl)

/-- x in three bytes, the greatest first. -/
def n24 (x : Nat) : List Int := [((x / 65536 : Nat) : Int), ((x / 256 % 256 : Nat) : Int), ((x % 256 : Nat) : Int)]

set_option maxHeartbeats 800000 in
theorem appendU24_any (sv : Value) (L : List Int) (x : Nat) (w : World) (hown : Own w sv L) (hL : L.length ≤ 16777216) (hx : x < 16777216) :
    Calls Try.prog 48 #[sv, .int .u32 x] w fun e w' => ∃ v, e = .returned v ∧ Own w' v (L ++ n24 x) ∧ w.grownBy w' sv.ownBlock ∧ ∀ k, v.ownBlock = some k → sv.ownBlock = some k ∨ w.heap.size ≤ k := by
  have hi := Try.info5
  go_enter Try.func48, Try.ntmps48
  go_wp2_with (at_builtin; refine wpList_append_bytes _ rfl (.tmp 5) (.tmp 14) 22 rfl Try.underlying22 hi sv L rfl (hown.kept (World.grownBy_alloc w _ none) (none_or _)) (some ⟨w.heap.size, 0, none⟩) 3 3 (n24 x) rfl rfl ?a1 ?a2 ?a3 ?_)
  case a1 => simp
  case a2 =>
    intro ad h j hj
    cases h
    match j, hj with
    | 0, _ => simp [Addr.add, n24]
    | 1, _ => simp [Addr.add, n24]
    | 2, _ => simp [Addr.add, n24]
  case a3 => omega
  intro v' w1 r1 r2 r3
  go_wp2
  go_ret
  refine ⟨_, rfl, r1, grownBy_trans (World.grownBy_alloc w _ _) r2 (fun b hb _ => hb), fun k hk => ?_⟩
  rcases r3 k hk with h | h
  · exact .inl h
  · exact .inr (by omega)

set_option maxHeartbeats 800000 in
theorem appendVec24_any (sv sx : Value) (L M : List Int) (w : World) (hown : Own w sv L) (hox : Own w sx M) (hne : sx.ownBlock = none ∨ sx.ownBlock ≠ sv.ownBlock) (hL : L.length ≤ 2097152) (hM : M.length ≤ 1048576) :
    Calls Try.prog 44 #[sv, sx] w fun e w' => ∃ v, e = .returned v ∧ Own w' v (L ++ (n24 M.length ++ M)) ∧ w.grownBy w' sv.ownBlock ∧ ∀ k, v.ownBlock = some k → sv.ownBlock = some k ∨ w.heap.size ≤ k := by
  have hi := Try.info5
  have HN := hide hne
  clear hne
  obtain ⟨ao, cx, rfl, hn0, hcx, hcm, _⟩ := hox.slice
  have Hn0 := hide hn0
  clear hn0
  go_enter Try.func44, Try.ntmps44
  go_wp2_with fail
  refine (appendU24_any sv L M.length w hown (by omega) (by omega)).mono ?_
  rintro e w1 ⟨v1, rfl, r1, r2, r3⟩
  have hox1 := hox.kept r2 HN.out
  go_wp2_with (at_builtin; refine wpList_append_bytes _ rfl (.tmp 9) (.tmp 10) 22 rfl Try.underlying22 hi v1 (L ++ n24 M.length) rfl r1 ao M.length cx M rfl rfl Hn0.out ?a2 ?a3 ?_)
  case a2 =>
    intro ad h j hj
    subst h
    obtain ⟨ao', cx', e, _, _, _, hc⟩ := hox1.slice
    cases e
    exact (hc ad rfl).2 j hj
  case a3 => simp [n24]; omega
  intro v' w2 q1 q2 q3
  go_wp2
  go_ret
  have hsz := r2.size
  refine ⟨_, rfl, q1, grownBy_trans r2 q2 (fun b hb hlt => (r3 b hb).resolve_right (by omega)), fun k hk => ?_⟩
  rcases q3 k hk with h | h
  · exact r3 k h
  · exact .inr (by omega)

set_option maxHeartbeats 800000 in
theorem zzappendVec24_any (sv sx : Value) (L M : List Int) (w : World) (hown : Own w sv L) (hox : Own w sx M) (hne : sx.ownBlock = none ∨ sx.ownBlock ≠ sv.ownBlock) (hL : L.length ≤ 2097152) (hM : M.length ≤ 1048576) :
    Calls Try.prog 12 #[sv, sx] w fun e w' => ∃ v, e = .returned v ∧ Own w' v (L ++ (n24 M.length ++ M)) ∧ w.grownBy w' sv.ownBlock ∧ ∀ k, v.ownBlock = some k → sv.ownBlock = some k ∨ w.heap.size ≤ k := by
  have HN := hide hne
  clear hne
  go_enter Try.func12, Try.ntmps12
  go_wp2_with fail
  refine (appendVec24_any sv sx L M w hown hox HN.out hL hM).mono ?_
  rintro e w1 ⟨v1, rfl, r⟩
  go_wp2
  go_ret
  exact ⟨_, rfl, r⟩

end Go.Proofs.Qxb6604433a
