import Derived.Test.Qxb6604739aFmtRead
import Derived.Test.Qxb6604739aFmtMake
namespace Go.Proofs.Qxb6604739aFmt
open Go.RowKit

theorem ret2 {a a' b b' : Int} (h : a = a') (k : b = b') : Ending.returned (.tuple #[.int .u64 a, .int .i64 b]) = .returned (.tuple #[.int .u64 a', .int .i64 b']) := by rw [h, k]

set_option maxRecDepth 100000 in
set_option maxHeartbeats 1600000 in
theorem uvarint1 (g p n c : Nat) (x : Int) (w : World) (hp : 1 ≤ n) (h0 : w.cell? ⟨g, p, none⟩ = some (.int .u8 x)) (hx : 0 ≤ x ∧ x < 128) :
    Calls Tryf.prog 40 #[.slice (some ⟨g, p, none⟩) n c] w fun e w' => e = .returned (.tuple #[.int .u64 x, .int .i64 1]) ∧ w = w' := by
  have o0 : bits .or .u64 0 x = x := or_zero x (by omega) (by omega)
  go_enter Tryf.func40, Tryf.ntmps40
  go_wp2
  refine wp_loop_rounds 1 ?_
  rw [rounds_succ]
  go_wp2
  go_ret2
  exact ⟨rfl, rfl⟩

set_option maxRecDepth 100000 in
set_option maxHeartbeats 1600000 in
theorem uvarint2 (g p n c : Nat) (c0 c1 : Int) (w : World) (hn : n ≤ 268435456) (hp : 2 ≤ n) (h0 : w.cell? ⟨g, p, none⟩ = some (.int .u8 c0)) (h1 : w.cell? ⟨g, p + 1, none⟩ = some (.int .u8 c1)) (hc0 : 128 ≤ c0 ∧ c0 < 256) (hc1 : 0 < c1 ∧ c1 < 128) :
    Calls Tryf.prog 40 #[.slice (some ⟨g, p, none⟩) n c] w fun e w' => e = .returned (.tuple #[.int .u64 (c0 - 128 + c1 * 128), .int .i64 2]) ∧ w = w' := by
  have a0 := and127 c0 hc0
  have o0 : bits .or .u64 0 (c0 - 128) = c0 - 128 := or_zero _ (by omega) (by omega)
  have o1 : bits .or .u64 (c0 - 128) (c1 * 128) = c0 - 128 + c1 * 128 := or_low 7 _ _ (by omega) (by omega) (by omega) (by omega) (by omega) (by omega)
  go_enter Tryf.func40, Tryf.ntmps40
  go_wp2
  refine wp_loop_rounds 2 ?_
  rw [rounds_succ]
  go_wp2
  rw [rounds_succ]
  go_wp2
  go_ret2
  exact ⟨rfl, rfl⟩

set_option maxRecDepth 100000 in
set_option maxHeartbeats 1600000 in
theorem uvarint3 (g p n c : Nat) (c0 c1 c2 : Int) (w : World) (hn : n ≤ 268435456) (hp : 3 ≤ n) (h0 : w.cell? ⟨g, p, none⟩ = some (.int .u8 c0)) (h1 : w.cell? ⟨g, p + 1, none⟩ = some (.int .u8 c1)) (h2 : w.cell? ⟨g, p + 2, none⟩ = some (.int .u8 c2)) (hc0 : 128 ≤ c0 ∧ c0 < 256) (hc1 : 128 ≤ c1 ∧ c1 < 256) (hc2 : 0 < c2 ∧ c2 < 128) :
    Calls Tryf.prog 40 #[.slice (some ⟨g, p, none⟩) n c] w fun e w' => e = .returned (.tuple #[.int .u64 (c0 - 128 + (c1 - 128) * 128 + c2 * 16384), .int .i64 3]) ∧ w = w' := by
  have a0 := and127 c0 hc0
  have a1 := and127 c1 hc1
  have o0 : bits .or .u64 0 (c0 - 128) = c0 - 128 := or_zero _ (by omega) (by omega)
  have o1 : bits .or .u64 (c0 - 128) ((c1 - 128) * 128) = c0 - 128 + (c1 - 128) * 128 := or_low 7 _ _ (by omega) (by omega) (by omega) (by omega) (by omega) (by omega)
  have o2 : bits .or .u64 (c0 - 128 + (c1 - 128) * 128) (c2 * 16384) = c0 - 128 + (c1 - 128) * 128 + c2 * 16384 := or_low 14 _ _ (by omega) (by omega) (by omega) (by omega) (by omega) (by omega)
  go_enter Tryf.func40, Tryf.ntmps40
  go_wp2
  refine wp_loop_rounds 3 ?_
  rw [rounds_succ]
  go_wp2
  rw [rounds_succ]
  go_wp2
  rw [rounds_succ]
  go_wp2
  go_ret2
  exact ⟨rfl, rfl⟩

theorem uvarint_any (g p n c x : Nat) (w : World) (hn : n ≤ 268435456) (hx : x < 2097152) (hp : (uv x).length ≤ n) (hat : At w g p (uv x)) :
    Calls Tryf.prog 40 #[.slice (some ⟨g, p, none⟩) n c] w fun e w' => e = .returned (.tuple #[.int .u64 x, .int .i64 ((uv x).length : Nat)]) ∧ w = w' := by
  by_cases h1 : x < 128
  · have e := uv_small h1
    rw [e] at hp hat ⊢
    exact uvarint1 g p n c x w hp (hat 0 (by simp)) (by omega)
  · by_cases h2 : x < 16384
    · have e : uv x = [((x % 128 + 128 : Nat) : Int), ((x / 128 : Nat) : Int)] := by rw [uv_big (by omega), uv_small (by omega)]
      rw [e] at hp hat ⊢
      refine (uvarint2 g p n c _ _ w hn hp (hat 0 (by simp)) (hat 1 (by simp)) (by simp; omega) (by simp; omega)).mono ?_
      rintro e' w' ⟨rfl, hw⟩
      exact ⟨ret2 (by simp; omega) (by simp), hw⟩
    · have e : uv x = [((x % 128 + 128 : Nat) : Int), ((x / 128 % 128 + 128 : Nat) : Int), ((x / 128 / 128 : Nat) : Int)] := by rw [uv_big (by omega), uv_big (by omega), uv_small (by omega)]
      rw [e] at hp hat ⊢
      refine (uvarint3 g p n c _ _ _ w hn hp (hat 0 (by simp)) (hat 1 (by simp)) (hat 2 (by simp)) (by simp; omega) (by simp; omega) (by simp; omega)).mono ?_
      rintro e' w' ⟨rfl, hw⟩
      exact ⟨ret2 (by simp; omega) (by simp), hw⟩

/-- The decoder in block bd, without an error: it has still to read the bytes M, which lie in block g. -/
structure Dec (bd g : Nat) (w : World) (a : Addr) (c : Nat) (M : List Int) : Prop where
  box : w.heap[bd]? = some (.cells #[.slice (some a) M.length c, .nilIface] 65 (0, 0))
  le : M.length ≤ c
  max : c ≤ maxLen
  ne : g ≠ bd
  cells : 0 < M.length → ∃ p, a = ⟨g, p, none⟩ ∧ At w g p M

theorem Dec.c0 {bd g : Nat} {w : World} {a : Addr} {c : Nat} {M : List Int} (h : Dec bd g w a c M) : w.cell? ⟨bd, 0, none⟩ = some (.slice (some a) M.length c) := by simp [World.cell?, h.box]
theorem Dec.c1 {bd g : Nat} {w : World} {a : Addr} {c : Nat} {M : List Int} (h : Dec bd g w a c M) : w.cell? ⟨bd, 1, none⟩ = some .nilIface := by simp [World.cell?, h.box]
theorem Dec.f0 {bd g : Nat} {w : World} {a : Addr} {c : Nat} {M : List Int} (h : Dec bd g w a c M) : w.frozen? ⟨bd, 0, none⟩ = false := by simp [World.frozen?, h.box]
theorem Dec.lt {bd g : Nat} {w : World} {a : Addr} {c : Nat} {M : List Int} (h : Dec bd g w a c M) : bd < w.heap.size := lt_of_block h.box

/-- the decoder goes on by N -/
theorem Dec.put {bd g : Nat} {w : World} {a : Addr} {c : Nat} {N M : List Int} (h : Dec bd g w a c (N ++ M)) (a' : Addr) (ha' : ∀ p, a = ⟨g, p, none⟩ → ¬ c = N.length → a' = ⟨g, p + N.length, none⟩) :
    Dec bd g (w.setCell ⟨bd, 0, none⟩ (.slice (some a') M.length (c - N.length))) a' (c - N.length) M ∧ w.grownBy (w.setCell ⟨bd, 0, none⟩ (.slice (some a') M.length (c - N.length))) (some bd) := by
  have hl := h.le
  rw [List.length_append] at hl
  have hg : w.grownBy (w.setCell ⟨bd, 0, none⟩ (.slice (some a') M.length (c - N.length))) (some bd) := ⟨rfl, rfl, rfl, by simp [World.setCell], fun k _ hk => Below.heap_setCell _ _ _ _ (fun e => hk (by rw [e]))⟩
  refine ⟨⟨?_, by omega, by have := h.max; omega, h.ne, fun h0 => ?_⟩, hg⟩
  · have := heap_setCell_same w bd 0 _ 65 (.slice (some a') M.length (c - N.length)) h.box
    rw [this]
    rfl
  · obtain ⟨p, rfl, hat⟩ := h.cells (by rw [List.length_append]; omega)
    refine ⟨p + N.length, ha' p rfl (by omega), fun j hj => ?_⟩
    exact hg.cell (hat.right j hj) (fun e => h.ne (Option.some.inj e))

/-- behind a step of the decoder -/
def DecTo (bd g : Nat) (w w' : World) (M : List Int) : Prop := ∃ a' c', Dec bd g w' a' c' M ∧ w.grownBy w' (some bd)

set_option maxRecDepth 100000 in
set_option maxHeartbeats 1600000 in
theorem decUint64_any (bd g x c : Nat) (a : Addr) (M : List Int) (w : World) (h : Dec bd g w a c (uv x ++ M)) (hx : x < 2097152) (hM : (uv x ++ M).length ≤ 268435456) :
    Calls Tryf.prog 37 #[.pointer (some ⟨bd, 0, none⟩)] w fun e w' => e = .returned (.int .u64 x) ∧ DecTo bd g w w' M := by
  have hup := uv_pos x
  have hul := uv_length hx
  have hlen : (uv x ++ M).length = (uv x).length + M.length := List.length_append
  have hle := h.le
  have hmax := h.max
  obtain ⟨p, rfl, hat⟩ := h.cells (by omega)
  have HC := h.c0
  have HF := h.f0
  have HAT := hide hat
  have H := hide h
  obtain ⟨n, hn⟩ : ∃ n, n = (uv x ++ M).length := ⟨_, rfl⟩
  obtain ⟨k, hk⟩ : ∃ k, k = (uv x).length := ⟨_, rfl⟩
  rw [← hn] at HC hle hM hlen
  rw [← hk] at hlen hup hul
  have HK := hide hk
  have HN := hide hn
  have hlen2 : k + M.length = n := by omega
  have hsub : Hid (n - k = M.length) := by show _ = _; omega
  have hkn : k ≤ n := by omega
  unfold maxLen at hmax
  clear h hat hk hn hlen hlen2
  go_enter Tryf.func37, Tryf.ntmps37
  go_wp2_with fail
  refine (uvarint_any g p n c x w hM hx (by rw [← HK.out]; omega) HAT.out.left).mono ?_
  rw [← HK.out]
  rintro e w' ⟨rfl, rfl⟩
  go_wp2
  · go_ret
    have hck : c = k := by assumption
    obtain ⟨q1, q2⟩ := H.out.put ⟨g, p, none⟩ (fun _ _ hne => absurd (by rw [← HK.out]; exact hck) hne)
    rw [← HK.out, ← hsub.out, hck, Nat.sub_self] at q1 q2
    exact ⟨rfl, _, _, by rw [← hsub.out] at *; exact q1, q2⟩
  · go_ret
    obtain ⟨q1, q2⟩ := H.out.put ⟨g, p + k, none⟩ (fun p' hp' _ => by cases hp'; rw [← HK.out])
    rw [← HK.out, ← hsub.out] at q1 q2
    exact ⟨rfl, _, _, q1, q2⟩

theorem decUint_any (bd g x c : Nat) (a : Addr) (M : List Int) (w : World) (h : Dec bd g w a c (uv x ++ M)) (hx : x < 2097152) (hM : (uv x ++ M).length ≤ 268435456) :
    Calls Tryf.prog 30 #[.pointer (some ⟨bd, 0, none⟩)] w fun e w' => e = .returned (.int .i64 x) ∧ DecTo bd g w w' M := by
  have H := hide h
  have HM := hide hM
  clear h hM
  go_enter Tryf.func30, Tryf.ntmps30
  go_wp2_with fail
  refine (decUint64_any bd g x c a M w H.out hx HM.out).mono ?_
  rintro e w1 ⟨rfl, D⟩
  have HD := hide D
  clear D
  go_wp2
  go_ret
  exact ⟨rfl, HD.out⟩

/-- what raw hands back: a window on the body that holds s's bytes -/
def Window (g : Nat) (w : World) (s : ByteArray) (e : Ending) : Prop := ∃ a c, e = .returned (.slice (some a) s.size c) ∧ (0 < s.size → ∃ p, a = ⟨g, p, none⟩ ∧ At w g p (bs s))

set_option maxRecDepth 100000 in
set_option maxHeartbeats 1600000 in
theorem decRaw_any (bd g c : Nat) (s : ByteArray) (a : Addr) (M : List Int) (w : World) (h : Dec bd g w a c (es s ++ M)) (hs : s.size ≤ 1048576) (hM : (es s ++ M).length ≤ 268435456) :
    Calls Tryf.prog 36 #[.pointer (some ⟨bd, 0, none⟩)] w fun e w' => Window g w' s e ∧ DecTo bd g w w' M := by
  have H : Hid (Dec bd g w a c (uv s.size ++ (bs s ++ M))) := by
    have := h
    rw [es, List.append_assoc] at this
    exact this
  have HM : Hid ((uv s.size ++ (bs s ++ M)).length ≤ 268435456) := by
    have := hM
    rw [es, List.append_assoc] at this
    exact this
  have hl2 : (bs s ++ M).length ≤ 268435456 := by have := HM.out; rw [List.length_append] at this; omega
  clear h hM
  go_enter Tryf.func36, Tryf.ntmps36
  go_wp2_with fail
  refine (decUint_any bd g s.size c a _ w H.out (by omega) HM.out).mono ?_
  rintro e w1 ⟨rfl, a1, c1, D1, g1⟩
  have HC := D1.c0
  have HF := D1.f0
  have hle := D1.le
  have hmax := D1.max
  unfold maxLen at hmax
  have HD := hide D1
  have HG := hide g1
  have hlen : (bs s ++ M).length = s.size + M.length := by rw [List.length_append, bs_length]
  have HLEN := hide hlen
  obtain ⟨n, hn⟩ : ∃ n, n = (bs s ++ M).length := ⟨_, rfl⟩
  rw [← hn] at HC hle hl2 hlen
  have HN := hide hn
  have hsn : s.size ≤ n := by omega
  have hsub : Hid (n - s.size = M.length) := by show _ = _; omega
  clear D1 g1 hlen hn H HM
  have win : ∀ w2, w1.grownBy w2 (some bd) → 0 < s.size → ∃ p, a1 = ⟨g, p, none⟩ ∧ At w2 g p (bs s) := by
    intro w2 hg h0
    obtain ⟨p, rfl, hat⟩ := HD.out.cells (by rw [HLEN.out]; omega)
    exact ⟨p, rfl, fun j hj => hg.cell (hat.left j hj) (fun e => HD.out.ne (Option.some.inj e))⟩
  have WIN := hide win
  clear win
  go_wp2
  · go_ret
    have hck : c1 = s.size := by assumption
    obtain ⟨q1, q2⟩ := HD.out.put a1 (fun _ _ hne => absurd (by rw [bs_length]; exact hck) hne)
    rw [bs_length, ← hsub.out, hck, Nat.sub_self] at q1 q2
    exact ⟨⟨_, _, rfl, WIN.out _ q2⟩, _, _, by rw [← hsub.out] at *; exact q1, grownBy_trans HG.out q2 (fun b hb _ => hb)⟩
  · go_ret
    obtain ⟨q1, q2⟩ := HD.out.put (a1.add s.size) (fun p' hp' _ => by rw [hp', Addr.add_lit, bs_length])
    rw [bs_length, ← hsub.out] at q1 q2
    exact ⟨⟨_, _, rfl, WIN.out _ q2⟩, _, _, q1, grownBy_trans HG.out q2 (fun b hb _ => hb)⟩

set_option maxRecDepth 100000 in
set_option maxHeartbeats 1600000 in
theorem decString_any (bd g c : Nat) (s : ByteArray) (a : Addr) (M : List Int) (w : World) (h : Dec bd g w a c (es s ++ M)) (hs : s.size ≤ 1048576) (hM : (es s ++ M).length ≤ 268435456) :
    Calls Tryf.prog 29 #[.pointer (some ⟨bd, 0, none⟩)] w fun e w' => e = .returned (.string s) ∧ DecTo bd g w w' M := by
  have H := hide h
  have HM := hide hM
  clear h hM
  go_enter Tryf.func29, Tryf.ntmps29
  go_wp2_with fail
  refine (decRaw_any bd g c s a M w H.out hs HM.out).mono ?_
  rintro e w1 ⟨⟨a1, c1, rfl, hw⟩, D⟩
  have HD := hide D
  have hconv : (convert 23 9 (.slice (some a1) s.size c1)).run Tryf.prog w1 = .ok (.string s) w1 := by
    have h1 := run_convert_bytes_back (P := Tryf.prog) w1 23 9 5 a1 c1 s.data.toList Tryf.underlying23 Tryf.underlying5 Tryf.underlying9 (fun j hj => by
      have hj' : j < s.size := by rw [Array.length_toList] at hj; exact hj
      obtain ⟨p, rfl, hat⟩ := hw (by omega)
      have h2 := hat j (by rw [bs_length]; exact hj')
      rw [bs_getD s j hj'] at h2
      rw [Addr.add_lit, h2]
      simp
      rfl)
    rw [Array.length_toList] at h1
    exact h1
  clear D hw
  go_wp2
  go_ret
  exact ⟨rfl, HD.out⟩

end Go.Proofs.Qxb6604739aFmt
