import Derived.Test.Qxb6604591aSplits
import Derived.Deep.QuietTactic
import Derived.BigQuiet
namespace Go.Proofs.Qxb6604591a
open Go.RowKit

theorem bytes10_yes (a b c d : ByteArray) (w : World) (h : a.size + b.size + c.size + d.size ≤ 1048576) :
    Calls Try.prog 10 #[.string a, .string b, .string c, .string d] w fun e w' => e = .returned (.bool true) ∧ w = w' := by
  have h1 : a.size ≤ 1048576 := by omega
  have h2 : b.size ≤ 1048576 := by omega
  have h3 : c.size ≤ 1048576 := by omega
  have h4 : d.size ≤ 1048576 := by omega
  go_enter Try.func10, Try.ntmps10
  go_wp2
  go_ret
  exact ⟨rfl, rfl⟩

theorem bytes10_no (a b c d : ByteArray) (w : World) (h : ¬ a.size + b.size + c.size + d.size ≤ 1048576) :
    Calls Try.prog 10 #[.string a, .string b, .string c, .string d] w fun e w' => e = .returned (.bool false) ∧ w = w' := by
  go_enter Try.func10, Try.ntmps10
  go_wp2
  all_goals
    go_ret
    exact ⟨rfl, rfl⟩

theorem prefix_yes (s p : ByteArray) (w : World) (hs : p.size ≤ s.size) (h : (s.extract 0 p.size).toList = p.toList) :
    Calls Try.prog 11 #[.string s, .string p] w fun e w' => e = .returned (.bool true) ∧ w' = w := by
  have h1 : (p.size : Int) ≤ (s.size : Int) := by omega
  go_enter Try.func11, Try.ntmps11
  go_wp2
  go_ret
  exact ⟨rfl, rfl⟩

theorem suffix_yes (s p : ByteArray) (w : World) (hs : p.size ≤ s.size) (hm : s.size ≤ 4194304) (h : (s.extract (s.size - p.size) s.size).toList = p.toList) :
    Calls Try.prog 12 #[.string s, .string p] w fun e w' => e = .returned (.bool true) ∧ w' = w := by
  have h1 : (p.size : Int) ≤ (s.size : Int) := by omega
  go_enter Try.func12, Try.ntmps12
  go_wp2
  all_goals
    go_ret
    exact ⟨rfl, rfl⟩

theorem assoc_path (o m i : ByteArray) : o ++ { data := #[46] } ++ (m ++ { data := #[46] } ++ i) = o ++ { data := #[46] } ++ m ++ { data := #[46] } ++ i := by
  simp only [ByteArray.append_assoc]

theorem cell_second (w : World) (a b : Value) : (w.alloc (.cells #[a, b] 26)).cell? ⟨w.heap.size, 1, none⟩ = some b := by simp

theorem path_suffix (f i F : ByteArray) (h : f ++ { data := #[46] } ++ i = F) : (F.extract (F.size - i.size) F.size).toList = i.toList := by
  have hs : F.size = f.size + 1 + i.size := by rw [← h, path_size]
  have hl : F.toList = f.toList ++ (46 :: i.toList) := by rw [← h, path_list]
  rw [ext_list, hl, show F.size - i.size = f.toList.length + 1 from by rw [length_list]; omega]
  rw [List.drop_append, List.drop_of_length_le (by omega), Nat.add_sub_cancel_left, List.nil_append]
  exact List.take_of_length_le (by simp only [List.drop_succ_cons, List.drop_zero, length_list]; omega)

theorem grown_drewN {w w' : World} (h : Grown w w') (n : Nat) : Grown w (w'.drewN n) := by
  induction n with
  | zero => exact h
  | succ n ih => exact Grown.drew ih

theorem cell_first (w : World) (a b : Value) (B C : Obj) : (((w.alloc (.cells #[a, b] 26)).alloc B).alloc C).cell? ⟨w.heap.size, 1, none⟩ = some b := by
  have hb : Below (w.heap.size + 1) (w.alloc (.cells #[a, b] 26)) (((w.alloc (.cells #[a, b] 26)).alloc B).alloc C) := ((Below.refl _ _).alloc (by simp) _).alloc (by simp) _
  rw [hb.cell (by simp)]
  simp

theorem four_boxes (w : World) (a0 a1 b0 b1 c0 c1 d0 d1 : Value) (w4 : World) (h : (((w.alloc (.cells #[a0, a1] 26)).alloc (.cells #[b0, b1] 26)).alloc (.cells #[c0, c1] 26)).alloc (.cells #[d0, d1] 26) = w4) :
    Grown w w4 ∧ w4.cell? ⟨w.heap.size + 1, 0, none⟩ = some b0 ∧ w4.cell? ⟨w.heap.size + 1 + 1, 0, none⟩ = some c0 ∧ w4.cell? ⟨w.heap.size + 1 + 1, 1, none⟩ = some c1 ∧ w4.cell? ⟨w.heap.size + 1 + 1 + 1, 0, none⟩ = some d0 ∧ w4.cell? ⟨w.heap.size + 1 + 1 + 1, 1, none⟩ = some d1 := by
  subst h
  obtain ⟨w1, hw1⟩ : ∃ w1, w1 = w.alloc (.cells #[a0, a1] 26) := ⟨_, rfl⟩
  obtain ⟨w2, hw2⟩ : ∃ w2, w2 = w1.alloc (.cells #[b0, b1] 26) := ⟨_, rfl⟩
  obtain ⟨w3, hw3⟩ : ∃ w3, w3 = w2.alloc (.cells #[c0, c1] 26) := ⟨_, rfl⟩
  have s1 : w1.heap.size = w.heap.size + 1 := by rw [hw1]; simp
  have s2 : w2.heap.size = w.heap.size + 1 + 1 := by rw [hw2]; simp [s1]
  have s3 : w3.heap.size = w.heap.size + 1 + 1 + 1 := by rw [hw3]; simp [s2]
  have k2 : Below w2.heap.size w2 (w3.alloc (.cells #[d0, d1] 26)) := by rw [hw3]; exact ((Below.refl _ _).alloc (Nat.le_refl _) _).alloc (by simp) _
  have k3 : Below w3.heap.size w3 (w3.alloc (.cells #[d0, d1] 26)) := (Below.refl _ _).alloc (Nat.le_refl _) _
  rw [← hw1, ← hw2, ← hw3]
  refine ⟨?_, ?_, ?_, ?_, ?_, ?_⟩
  · rw [hw3, hw2, hw1]; repeat (first | exact Grown.refl _ | apply Grown.drew | apply Grown.alloc)
  · rw [k2.cell (by rw [s2]; show w.heap.size + 1 < _; omega), hw2, ← s1]; simp
  · rw [k3.cell (by rw [s3]; show w.heap.size + 1 + 1 < _; omega), hw3, ← s2]; simp
  · rw [k3.cell (by rw [s3]; show w.heap.size + 1 + 1 < _; omega), hw3, ← s2]; simp
  · rw [← s3]; simp
  · rw [← s3]; simp

theorem within_as (f inner R : ByteArray) (b : Nat) (w : World) (hR : f ++ { data := #[46] } ++ inner = R) (hf : f.size ≤ 2097152) (hi : inner.size ≤ 2097152) (hc : w.cell? ⟨b, 1, none⟩ = some (.string inner)) :
    Calls Try.prog 9 #[.string f, .pointer (some ⟨b, 0, none⟩)] w fun e w' => e = .returned (.pointer (some ⟨w.heap.size, 0, none⟩)) ∧ w.alloc (.cells #[.string { data := #[] }, .string R] 26) = w' := by
  subst hR
  exact within_any f inner b w hf hi hc

set_option maxHeartbeats 400000 in
theorem core2 (o m g i : ByteArray) (w : World) (ho : o.size ≤ 262144) (hm : m.size ≤ 262144) (hg : g.size ≤ 262144) (hi : i.size ≤ 262144) (hsum : o.size + m.size + g.size + i.size ≤ 1048576) :
    Calls Try.prog 4 #[.string o, .string m, .string g, .string i] w fun e w' => e = .returned (.bool true) ∧ Grown w w' := by
  obtain ⟨M, HM⟩ : ∃ M, Hid (m ++ { data := #[46] } ++ i = M) := ⟨_, rfl⟩
  obtain ⟨R, HR⟩ : ∃ R, Hid (o ++ { data := #[46] } ++ m ++ { data := #[46] } ++ i = R) := ⟨_, rfl⟩
  have HR2 : Hid (o ++ { data := #[46] } ++ M = R) := by rw [← HM.out, ← HR.out]; exact assoc_path o m i
  have hMs : M.size ≤ 524289 := by rw [← HM.out, path_size]; omega
  have HS : Hid (R.size = o.size + m.size + i.size + 2) := by
    have h : R.size = o.size + 1 + m.size + 1 + i.size := by rw [← HR.out, path_size, path_size]
    show _ = _
    omega
  have hlen : ((R.size : Int) == (o.size : Int) + (m.size : Int) + (i.size : Int) + 2) = true := by rw [beq_iff_eq, HS.out]; omega
  have hRs : R.size ≤ 1048578 := by rw [HS.out]; omega
  go_enter Try.func4, Try.ntmps4
  go_wp2_with fail
  refine (bytes10_yes o m g i w hsum).mono ?_
  rintro e w' ⟨rfl, rfl⟩
  go_wp2_with fail
  refine (within_as m i M _ _ HM.out (by omega) (by omega) (by simp)).mono ?_
  rintro e w' ⟨rfl, rfl⟩
  go_wp2_with fail
  refine (within_as o M R _ _ HR2.out (by omega) (by omega) (by simp)).mono ?_
  rintro e w' ⟨rfl, rfl⟩
  go_wp2_with fail
  refine Calls.mono (within_as _ i R _ _ ?h1 ?h2 ?h3 ?h4) ?_
  case h1 => exact HR.out
  case h2 => rw [path_size]; omega
  case h3 => omega
  case h4 => exact cell_first w _ _ _ _
  rintro e w4 ⟨rfl, hw4⟩
  obtain ⟨hgr, m0, p0, p1, q0, q1⟩ := four_boxes w _ _ _ _ _ _ _ _ w4 hw4
  clear hw4
  have HG := hide hgr
  have hpre : (R.extract 0 o.size).toList = o.toList := by
    rw [ext_list, ← HR2.out, path_list, List.drop_zero, Nat.sub_zero, List.take_append_of_le_length (by rw [length_list]; exact Nat.le_refl _)]
    exact List.take_of_length_le (by rw [length_list]; exact Nat.le_refl _)
  have hsuf : (R.extract (R.size - i.size) R.size).toList = i.toList := path_suffix _ i R HR.out
  have hos : o.size ≤ R.size := by rw [HS.out]; omega
  have his : i.size ≤ R.size := by rw [HS.out]; omega
  have Hpre := hide hpre
  have Hsuf := hide hsuf
  clear hpre hsuf hgr
  go_wp2_with fail
  go_quiet (first | (go_at_call 11; exact Calls.quiet_of_same (prefix_yes R o _ hos Hpre.out)) | (go_at_call 12; exact Calls.quiet_of_same (suffix_yes R i _ his (by omega) Hsuf.out)))
  go_wp2
  go_ret
  exact ⟨rfl, grown_drewN HG.out nq⟩

theorem big2 (o m g i : ByteArray) (w : World) (h : ¬ (o.size ≤ 262144 ∧ m.size ≤ 262144 ∧ g.size ≤ 262144 ∧ i.size ≤ 262144 ∧ o.size + m.size + g.size + i.size ≤ 1048576)) :
    Calls Try.prog 4 #[.string o, .string m, .string g, .string i] w fun e w' => e = .returned (.bool true) ∧ Grown w w' := by
  by_cases hs : o.size + m.size + g.size + i.size ≤ 1048576
  · by_cases h1 : o.size ≤ 262144 <;> by_cases h2 : m.size ≤ 262144 <;> by_cases h3 : g.size ≤ 262144 <;> by_cases h4 : i.size ≤ 262144
    all_goals first
      | (exfalso; omega)
      | (go_enter Try.func4, Try.ntmps4
         go_wp2_with fail
         refine (bytes10_yes o m g i w hs).mono ?_
         rintro e w' ⟨rfl, rfl⟩
         go_wp2
         go_ret
         exact ⟨rfl, Grown.refl _⟩)
  · go_enter Try.func4, Try.ntmps4
    go_wp2_with fail
    refine (bytes10_no o m g i w hs).mono ?_
    rintro e w' ⟨rfl, rfl⟩
    go_wp2
    go_ret
    exact ⟨rfl, Grown.refl _⟩

theorem walk2 (o m g i : ByteArray) (w : World) : Calls Try.prog 4 #[.string o, .string m, .string g, .string i] w fun e w' => e = .returned (.bool true) ∧ Grown w w' := by
  by_cases h : o.size ≤ 262144 ∧ m.size ≤ 262144 ∧ g.size ≤ 262144 ∧ i.size ≤ 262144 ∧ o.size + m.size + g.size + i.size ≤ 1048576
  · exact core2 o m g i w h.1 h.2.1 h.2.2.1 h.2.2.2.1 h.2.2.2.2
  · exact big2 o m g i w h

end Go.Proofs.Qxb6604591a
