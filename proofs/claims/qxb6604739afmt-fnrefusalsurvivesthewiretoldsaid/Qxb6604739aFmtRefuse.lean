import Derived.Test.Qxb6604739aFmtShift2
namespace Go.Proofs.Qxb6604739aFmt
open Go.RowKit

set_option maxRecDepth 100000 in
theorem bytes6_any (p f : ByteArray) (w : World) :
    Calls Tryf.prog 6 #[.string p, .string f] w fun e w' => IsBool e ∧ w = w' := by
  go_enter Tryf.func6, Tryf.ntmps6
  go_wp2
  all_goals (go_ret; exact ⟨isBool _, rfl⟩)

set_option maxRecDepth 100000 in
set_option maxHeartbeats 1600000 in
theorem refusedEncode_any (be bm : Nat) (v : Value) (L : List Int) (s : ByteArray) (w : World) (h : Enc be w v L) (hm : w.cell? ⟨bm, 0, none⟩ = some (.string s)) (hL : L.length ≤ 67108864) (hs : s.size ≤ 1048576) :
    Calls Tryf.prog 24 #[.pointer (some ⟨bm, 0, none⟩), .pointer (some ⟨be, 0, none⟩)] w fun e w' => e = .returned (.tuple #[]) ∧ ∃ v', Enc be w' v' (L ++ es s) ∧ Step be w v w' v' := by
  have H := hide h
  clear h
  go_enter Tryf.func24, Tryf.ntmps24
  go_wp2_with fail
  refine (string_any be v L s w H.out (by omega) hs).mono ?_
  rintro e w1 ⟨rfl, R⟩
  have HR := hide R
  clear R
  go_wp2
  go_end0
  exact ⟨rfl, HR.out⟩

set_option maxRecDepth 100000 in
set_option maxHeartbeats 1600000 in
theorem encodeRefused_any (s : ByteArray) (w : World) (hs : s.size ≤ 1048576) :
    Calls Tryf.prog 7 #[.string s] w fun e w' => ∃ v', e = .returned v' ∧ Own w' v' (es s) ∧ Below w.heap.size w w' := by
  have hE : Enc w.heap.size (w.alloc (.cells #[.slice none 0 0] 54)) (.slice none 0 0) [] := ⟨heap_alloc_new w _, own_nil _, fun e => by cases e⟩
  have HE := hide (hE.alloc (.cells #[.string s] 57))
  have hc : Hid (((w.alloc (.cells #[.slice none 0 0] 54)).alloc (.cells #[.string s] 57)).cell? ⟨w.heap.size + 1, 0, none⟩ = some (.string s)) := by
    have := heap_alloc_new (w.alloc (.cells #[.slice none 0 0] 54)) (.cells #[.string s] 57)
    rw [World.size_alloc] at this
    exact cell_of_one this
  have hb : Hid (Below w.heap.size w ((w.alloc (.cells #[.slice none 0 0] 54)).alloc (.cells #[.string s] 57))) := ((Below.refl _ _).alloc (Nat.le_refl _) _).alloc (by simp) _
  clear hE
  go_enter Tryf.func7, Tryf.ntmps7
  go_wp2_with fail
  refine (refusedEncode_any w.heap.size (w.heap.size + 1) _ [] s _ HE.out hc.out (by simp) hs).mono ?_
  rintro e w1 ⟨rfl, v1, E1, S1⟩
  have hc1 := E1.cell
  obtain ⟨a1, n1, c1, rfl⟩ := E1.own.isSlice
  have HE1 := hide E1
  have HS1 := hide S1
  clear E1 S1
  go_wp2
  go_ret
  exact ⟨_, rfl, HE1.out.own, hb.out.trans (HS1.out.below hb.out.size (Nat.le_refl _) (fun k hk => by cases hk))⟩

set_option maxRecDepth 100000 in
set_option maxHeartbeats 1600000 in
theorem refusedDecode_any (bd g bm c : Nat) (a : Addr) (x s : ByteArray) (T : List Int) (w : World) (h : Dec bd g w a c (es s ++ T)) (hm : w.heap[bm]? = some (.cells #[.string x] 57 (0, 0))) (h1 : bd ≠ bm) (h2 : bm ≠ g) (hs : s.size ≤ 1048576) (hM : (es s ++ T).length ≤ 268435456) :
    Calls Tryf.prog 26 #[.pointer (some ⟨bm, 0, none⟩), .pointer (some ⟨bd, 0, none⟩)] w fun e w' => e = .returned (.tuple #[]) ∧ ∃ a' c', Dec bd g w' a' c' T ∧ w'.heap[bm]? = some (.cells #[.string s] 57 (0, 0)) ∧ Gr [bm, bd] w w' := by
  have H := hide h
  have HSh := hide hm
  have HM := hide hM
  clear h hm hM
  go_enter Tryf.func26, Tryf.ntmps26
  go_wp2_with fail
  refine (decString_any bd g c s a _ w H.out hs HM.out).mono ?_
  rintro e w1 ⟨rfl, a1, c1, D1, g1⟩
  have M1 : w1.heap[bm]? = some (.cells #[.string x] 57 (0, 0)) := (g1.block bm (lt_of_block HSh.out) (fun e => h1 (Option.some.inj e).symm)).trans HSh.out
  have d1 := cell_of_one M1
  have f1 := free_of_one M1
  have HD1 := hide D1
  have HM1 := hide M1
  have HG1 : Hid (Gr [bm, bd] w w1) := Gr.of g1 (by simp)
  clear D1 M1 g1
  go_wp2
  go_end0
  exact ⟨rfl, a1, c1, HD1.out.kept (set_grown _ _ _ _) h1.symm h2, one_setCell HM1.out, HG1.out.trans (Gr.of (set_grown _ _ _ _) (by simp))⟩

set_option maxRecDepth 100000 in
set_option maxHeartbeats 1600000 in
theorem decodeRefused_any (g cap : Nat) (s : ByteArray) (w : World) (hl1 : (es s).length ≤ cap) (hl2 : cap ≤ maxLen) (hg : g < w.heap.size) (hat : At w g 0 (es s)) (hs : s.size ≤ 1048576) :
    Calls Tryf.prog 9 #[.slice (some ⟨g, 0, none⟩) (es s).length cap] w fun e w' => e = .returned (.tuple #[.string s, .bool true, .int .i64 0]) ∧ Below w.heap.size w w' := by
  have hes := es_le s hs
  have hD := dec_new hl1 hl2 hg hat
  have hD2 : Dec w.heap.size g ((w.alloc (.cells #[.slice (some ⟨g, 0, none⟩) (es s).length cap, .nilIface] 65)).alloc (.cells #[.string { data := #[] }] 57)) ⟨g, 0, none⟩ cap (es s ++ []) := by
    rw [List.append_nil]
    exact hD.kept (r := w.heap.size + 1) (World.grownBy_alloc _ _ _) (by omega) (by omega)
  have hm : ((w.alloc (.cells #[.slice (some ⟨g, 0, none⟩) (es s).length cap, .nilIface] 65)).alloc (.cells #[.string { data := #[] }] 57)).heap[w.heap.size + 1]? = some (.cells #[.string { data := #[] }] 57 (0, 0)) := by
    have := heap_alloc_new (w.alloc (.cells #[.slice (some ⟨g, 0, none⟩) (es s).length cap, .nilIface] 65)) (.cells #[.string { data := #[] }] 57)
    rw [World.size_alloc] at this
    exact this
  have hb : Below w.heap.size w ((w.alloc (.cells #[.slice (some ⟨g, 0, none⟩) (es s).length cap, .nilIface] 65)).alloc (.cells #[.string { data := #[] }] 57)) := ((Below.refl _ _).alloc (Nat.le_refl _) _).alloc (by simp) _
  have HD := hide hD2
  have HM := hide hm
  have HB := hide hb
  obtain ⟨n, Hn⟩ : ∃ n, Hid ((es s).length = n) := ⟨_, rfl⟩
  rw [Hn.out] at HD HM HB ⊢
  clear hD hD2 hm hat hl1 hb
  go_enter Tryf.func9, Tryf.ntmps9
  go_wp2_with fail
  refine (refusedDecode_any w.heap.size g (w.heap.size + 1) cap _ _ s [] _ HD.out HM.out (by omega) (by omega) hs (by rw [List.append_nil]; omega)).mono ?_
  rintro e w1 ⟨rfl, a1, c1, D1, M1, G1⟩
  have q0 := D1.c0
  have q1 := D1.c1
  have q2 := cell_of_one M1
  have HB1 : Hid (Below w.heap.size w w1) := HB.out.trans (G1.below HB.out.size (fun r hr => by simp at hr; omega))
  clear D1 M1 G1
  go_wp2_with fail
  go_quiet (fail)
  go_wp2
  go_ret3
  exact ⟨rfl, HB1.out.trans ((below_drewN ⟨_, rfl⟩).mono HB1.out.size)⟩

theorem assert_refused (a : Addr) (w : World) : (Instr.typeAssert (.iface 55 (.pointer (some a))) 83 55 true).run Tryf.prog w = .ok (.tuple #[.pointer (some a), .bool true]) w := by kernel_rfl
theorem assert_error (a : Addr) (w : World) : (Instr.typeAssert (.iface 68 (.pointer (some a))) 63 68 true).run Tryf.prog w = .ok (.tuple #[.pointer (some a), .bool true]) w := by kernel_rfl

set_option maxRecDepth 100000 in
set_option maxHeartbeats 1600000 in
theorem refusal_any (ad s : ByteArray) (w : World) :
    Calls Tryf.prog 10 #[.string ad, .string s] w fun e w' => e = .returned (.tuple #[.bool true, .string ad, .string s]) ∧ Below w.heap.size w w' := by
  have h1 := assert_refused
  have h2 := assert_error
  go_enter Tryf.func10, Tryf.ntmps10
  go_wp2
  go_quiet (fail)
  go_wp2
  go_ret3
  exact ⟨rfl, (((Below.refl _ _).alloc (Nat.le_refl _) _).alloc (by simp) _).trans ((below_drewN ⟨_, rfl⟩).mono (by simp; omega))⟩

set_option maxRecDepth 100000 in
set_option maxHeartbeats 3200000 in
theorem refusal_law (ad s : ByteArray) (w : World) :
    Calls Tryf.prog 3 #[.string ad, .string s] w fun e w' => e = .returned (.bool true) ∧ Below w.heap.size w w' := by
  go_enter Tryf.func3, Tryf.ntmps3
  go_wp2_with fail
  refine (bytes6_any ad s w).mono ?_
  rintro e w' ⟨⟨r, rfl⟩, rfl⟩
  cases r with
  | false =>
    go_wp2
    go_ret
    exact ⟨rfl, Below.refl _ _⟩
  | true =>
    go_wp2_with fail
    any_goals (go_ret; exact ⟨rfl, Below.refl _ _⟩)
    have hs : s.size ≤ 1048576 := by omega
    have hes := es_le s hs
    have hup := uv_pos s.size
    have hpos : 0 < (es s).length := by rw [es, List.length_append]; omega
    refine (encodeRefused_any s w hs).mono ?_
    rintro e w1 ⟨v1, rfl, o1, b1⟩
    obtain ⟨g, cap, rfl, hl1, hl2, hg, hown, hat⟩ := o1.head hpos
    have HAT := hide hat
    have HB1 := hide b1
    have HL1 := hide hl1
    have HL2 := hide hl2
    obtain ⟨n, Hn⟩ : ∃ n, Hid ((es s).length = n) := ⟨_, rfl⟩
    rw [Hn.out] at hes hpos ⊢
    clear o1 b1 hat hown hl1 hl2
    go_wp2_with fail
    refine (expect_any g n cap 0 s 0 w1 rfl (by omega) hs (by rw [Hn.out]; omega) HAT.out).mono ?_
    rw [Hn.out, Nat.zero_add]
    rintro e w2 ⟨rfl, m2, rfl⟩
    have hb2 : Below w1.heap.size w1 (w1.drewN m2) := below_drewN ⟨_, rfl⟩
    have HAT2 := hide (HAT.out.later hb2)
    have HB2 := hide (HB1.out.trans (hb2.mono HB1.out.size))
    clear hb2
    go_wp2_with fail
    have hcall := decodeRefused_any g cap s (w1.drewN m2) HL1.out HL2.out (by simpa using hg) HAT2.out hs
    rw [Hn.out] at hcall
    refine hcall.mono ?_
    clear hcall
    rintro e w3 ⟨rfl, b3⟩
    have HB3 := hide (HB2.out.trans (b3.mono HB2.out.size))
    clear b3
    go_wp2_with fail
    refine (refusal_any ad s w3).mono ?_
    rintro e w4 ⟨rfl, b4⟩
    have HB4 := hide (HB3.out.trans (b4.mono HB3.out.size))
    clear b4
    go_wp2
    go_ret
    exact ⟨rfl, HB4.out⟩

end Go.Proofs.Qxb6604739aFmt
