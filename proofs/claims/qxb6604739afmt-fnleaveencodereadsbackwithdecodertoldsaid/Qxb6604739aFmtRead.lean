import Derived.Test.Qxb6604739aFmtEnc
import Derived.Lib.EndianBits
import Derived.Deep.QuietTactic
import Derived.BigQuiet
namespace Go.Proofs.Qxb6604739aFmt
open Go.RowKit

theorem and127 (c : Int) (h : 128 ≤ c ∧ c < 256) : bits .and .u8 c 127 = c - 128 := by
  have := bits_mask .u8 8 (by decide) wraps_u8 7 (by decide) c (by omega) (by omega)
  have e : (2 : Int) ^ 7 - 1 = 127 := by decide
  rw [e] at this
  rw [this]; omega

theorem or_low (i : Nat) (y x : Int) (hy0 : 0 ≤ y) (hy : y < 2 ^ i) (hy1 : y < 2 ^ 64) (hx0 : 0 ≤ x) (hx : x % 2 ^ i = 0) (hx1 : x < 2 ^ 64) : bits .or .u64 y x = y + x :=
  bits_join_low .u64 64 (by decide) wraps_u64 i y x hy0 hy hy1 hx0 hx hx1

theorem or_zero (x : Int) (h0 : 0 ≤ x) (h1 : x < 18446744073709551616) : bits .or .u64 0 x = x := by
  rw [or_low 0 0 x (by omega) (by omega) (by omega) h0 (by omega) (by omega)]; omega

theorem ret3 {a a' b b' : Int} (h : a = a') (k : b = b') : Ending.returned (.tuple #[.int .u64 a, .int .i64 b, .bool true]) = .returned (.tuple #[.int .u64 a', .int .i64 b', .bool true]) := by rw [h, k]

set_option maxRecDepth 100000 in
set_option maxHeartbeats 1600000 in
theorem min1 (g n c p : Nat) (x : Int) (w : World) (hn : n ≤ 268435456) (hp : p + 1 ≤ n) (h0 : w.cell? ⟨g, p, none⟩ = some (.int .u8 x)) (hx : 0 ≤ x ∧ x < 128) :
    Calls Tryf.prog 25 #[.slice (some ⟨g, 0, none⟩) n c, .int .i64 p] w fun e w' => e = .returned (.tuple #[.int .u64 x, .int .i64 (p + 1), .bool true]) ∧ w = w' := by
  have o0 : bits .or .u64 0 x = x := or_zero x (by omega) (by omega)
  go_enter Tryf.func25, Tryf.ntmps25
  go_wp2
  refine wp_loop_rounds 1 ?_
  rw [rounds_succ]
  go_wp2
  go_ret3
  exact ⟨rfl, rfl⟩

set_option maxRecDepth 100000 in
set_option maxHeartbeats 1600000 in
theorem min2 (g n c p : Nat) (c0 c1 : Int) (w : World) (hn : n ≤ 268435456) (hp : p + 2 ≤ n) (h0 : w.cell? ⟨g, p, none⟩ = some (.int .u8 c0)) (h1 : w.cell? ⟨g, p + 1, none⟩ = some (.int .u8 c1)) (hc0 : 128 ≤ c0 ∧ c0 < 256) (hc1 : 0 < c1 ∧ c1 < 128) :
    Calls Tryf.prog 25 #[.slice (some ⟨g, 0, none⟩) n c, .int .i64 p] w fun e w' => e = .returned (.tuple #[.int .u64 (c0 - 128 + c1 * 128), .int .i64 (p + 2), .bool true]) ∧ w = w' := by
  have a0 := and127 c0 hc0
  have o0 : bits .or .u64 0 (c0 - 128) = c0 - 128 := or_zero _ (by omega) (by omega)
  have o1 : bits .or .u64 (c0 - 128) (c1 * 128) = c0 - 128 + c1 * 128 := or_low 7 _ _ (by omega) (by omega) (by omega) (by omega) (by omega) (by omega)
  have z1 : (c1 == 0) = false := beq_eq_false_iff_ne.2 (by omega)
  go_enter Tryf.func25, Tryf.ntmps25
  go_wp2
  refine wp_loop_rounds 2 ?_
  rw [rounds_succ]
  go_wp2
  rw [rounds_succ]
  go_wp2
  go_ret3
  exact ⟨ret3 rfl (by omega), rfl⟩

set_option maxRecDepth 100000 in
set_option maxHeartbeats 1600000 in
theorem min3 (g n c p : Nat) (c0 c1 c2 : Int) (w : World) (hn : n ≤ 268435456) (hp : p + 3 ≤ n) (h0 : w.cell? ⟨g, p, none⟩ = some (.int .u8 c0)) (h1 : w.cell? ⟨g, p + 1, none⟩ = some (.int .u8 c1)) (h2 : w.cell? ⟨g, p + 2, none⟩ = some (.int .u8 c2)) (hc0 : 128 ≤ c0 ∧ c0 < 256) (hc1 : 128 ≤ c1 ∧ c1 < 256) (hc2 : 0 < c2 ∧ c2 < 128) :
    Calls Tryf.prog 25 #[.slice (some ⟨g, 0, none⟩) n c, .int .i64 p] w fun e w' => e = .returned (.tuple #[.int .u64 (c0 - 128 + (c1 - 128) * 128 + c2 * 16384), .int .i64 (p + 3), .bool true]) ∧ w = w' := by
  have a0 := and127 c0 hc0
  have a1 := and127 c1 hc1
  have o0 : bits .or .u64 0 (c0 - 128) = c0 - 128 := or_zero _ (by omega) (by omega)
  have o1 : bits .or .u64 (c0 - 128) ((c1 - 128) * 128) = c0 - 128 + (c1 - 128) * 128 := or_low 7 _ _ (by omega) (by omega) (by omega) (by omega) (by omega) (by omega)
  have o2 : bits .or .u64 (c0 - 128 + (c1 - 128) * 128) (c2 * 16384) = c0 - 128 + (c1 - 128) * 128 + c2 * 16384 := or_low 14 _ _ (by omega) (by omega) (by omega) (by omega) (by omega) (by omega)
  have z1 : (c2 == 0) = false := beq_eq_false_iff_ne.2 (by omega)
  go_enter Tryf.func25, Tryf.ntmps25
  go_wp2
  refine wp_loop_rounds 3 ?_
  rw [rounds_succ]
  go_wp2
  rw [rounds_succ]
  go_wp2
  rw [rounds_succ]
  go_wp2
  go_ret3
  exact ⟨ret3 rfl (by omega), rfl⟩

/-- from place p of block g on lie the bytes M -/
def At (w : World) (g p : Nat) (M : List Int) : Prop := ∀ j, j < M.length → w.cell? ⟨g, p + j, none⟩ = some (.int .u8 (M.getD j 0))

theorem At.left {w : World} {g p : Nat} {M N : List Int} (h : At w g p (M ++ N)) : At w g p M := fun j hj => by
  have := h j (by rw [List.length_append]; omega)
  rw [List.getD_eq_getElem?_getD, List.getElem?_append_left hj, ← List.getD_eq_getElem?_getD] at this
  exact this

theorem At.right {w : World} {g p : Nat} {M N : List Int} (h : At w g p (M ++ N)) : At w g (p + M.length) N := fun j hj => by
  have := h (M.length + j) (by rw [List.length_append]; omega)
  rw [List.getD_eq_getElem?_getD, List.getElem?_append_right (by omega), Nat.add_sub_cancel_left, ← List.getD_eq_getElem?_getD, ← Nat.add_assoc] at this
  exact this

theorem At.later {w w' : World} {g p : Nat} {M : List Int} (h : At w g p M) (hb : Below w.heap.size w w') : At w' g p M := fun j hj => cell_later hb (h j hj)

theorem min_any (g n c p x : Nat) (q : Int) (w : World) (hq : q = (p : Int)) (hn : n ≤ 268435456) (hx : x < 2097152) (hp : p + (uv x).length ≤ n) (hat : At w g p (uv x)) :
    Calls Tryf.prog 25 #[.slice (some ⟨g, 0, none⟩) n c, .int .i64 q] w fun e w' => e = .returned (.tuple #[.int .u64 x, .int .i64 (p + (uv x).length : Nat), .bool true]) ∧ w = w' := by
  subst hq
  by_cases h1 : x < 128
  · have e := uv_small h1
    rw [e] at hp hat ⊢
    exact min1 g n c p x w hn hp (hat 0 (by simp)) (by omega)
  · by_cases h2 : x < 16384
    · have e : uv x = [((x % 128 + 128 : Nat) : Int), ((x / 128 : Nat) : Int)] := by rw [uv_big (by omega), uv_small (by omega)]
      rw [e] at hp hat ⊢
      refine (min2 g n c p _ _ w hn hp (hat 0 (by simp)) (hat 1 (by simp)) (by simp; omega) (by simp; omega)).mono ?_
      rintro e' w' ⟨rfl, hw⟩
      exact ⟨ret3 (by simp; omega) (by simp), hw⟩
    · have e : uv x = [((x % 128 + 128 : Nat) : Int), ((x / 128 % 128 + 128 : Nat) : Int), ((x / 128 / 128 : Nat) : Int)] := by rw [uv_big (by omega), uv_big (by omega), uv_small (by omega)]
      rw [e] at hp hat ⊢
      refine (min3 g n c p _ _ _ w hn hp (hat 0 (by simp)) (hat 1 (by simp)) (hat 2 (by simp)) (by simp; omega) (by simp; omega) (by simp; omega)).mono ?_
      rintro e' w' ⟨rfl, hw⟩
      exact ⟨ret3 (by simp; omega) (by simp), hw⟩

theorem bs_getD (s : ByteArray) (k : Nat) (h : k < s.size) : (bs s).getD k 0 = ((s[k]).toNat : Int) := by
  have h2 : k < s.data.size := h
  simp only [bs, List.getD_eq_getElem?_getD, List.getElem?_map, Array.getElem?_toList]
  rw [Array.getElem?_eq_getElem h2]
  rfl

set_option maxRecDepth 100000 in
set_option maxHeartbeats 1600000 in
theorem expect_any (g n c p : Nat) (s : ByteArray) (q : Int) (w : World) (hq : q = (p : Int)) (hn : n ≤ 268435456) (hs : s.size ≤ 1048576) (hp : p + (es s).length ≤ n) (hat : At w g p (es s)) :
    Calls Tryf.prog 8 #[.slice (some ⟨g, 0, none⟩) n c, .int .i64 q, .string s] w fun e w' => e = .returned (.tuple #[.int .i64 (p + (es s).length : Nat), .bool true]) ∧ ∃ m, w' = w.drewN m := by
  have HL := hide (At.left (N := bs s) hat)
  have HR := hide (At.right (M := uv s.size) hat)
  have hlen : (es s).length = (uv s.size).length + s.size := by rw [es, List.length_append, bs_length]
  obtain ⟨nx, hnx⟩ : ∃ nx, nx = p + (uv s.size).length := ⟨_, rfl⟩
  have hfin : Hid (p + (es s).length = nx + s.size) := by show _ = _; omega
  have hle : nx + s.size ≤ n := by omega
  have hle2 : p + (uv s.size).length ≤ n := by omega
  have HQ := hide hq
  have HNX := hide hnx
  have hz : ((s.size : Int) != (s.size : Int)) = false := by simp
  clear hat hq hnx hlen hp
  rw [hfin.out]
  go_enter Tryf.func8, Tryf.ntmps8
  go_wp2_with fail
  refine (min_any g n c p s.size q w HQ.out hn (by omega) hle2 HL.out).mono ?_
  rw [← HNX.out]
  rintro e w' ⟨rfl, rfl⟩
  go_wp2
  go_loopw [11] (fun i wr => ∃ k : Nat, k ≤ s.size ∧ i = .int .i64 k ∧ ∃ m, wr = w.drewN m) (fun i _ => s.size - (intOf i).toNat)
  case atStart => exact ⟨0, Nat.zero_le _, rfl, 0, rfl⟩
  case round =>
    obtain ⟨k, hk, rfl, m, rfl⟩ := hrel
    by_cases hlt : k < s.size
    · have hc : w.cell? ⟨g, nx + k, none⟩ = some (.int .u8 ((s[k]).toNat : Int)) := by
        have h1 := HR.out k (by rw [bs_length]; exact hlt)
        rw [← HNX.out, bs_getD s k hlt] at h1
        exact h1
      have hlt1 : (k : Int) < (s.size : Int) := by omega
      have hlt2 : (nx : Int) + (k : Int) < (n : Int) := by omega
      go_wp2
      go_quiet (fail)
      go_wp2
      exact ⟨⟨k + 1, by omega, by go_num, _, rfl⟩, by simp [intOf]; omega⟩
    · go_wp2
      go_ret2
      exact ⟨rfl, m, rfl⟩

end Go.Proofs.Qxb6604739aFmt
