import Derived.Test.Qxb6604433aWalks
namespace Go.Proofs.Qxb6604433a
open Go.RowKit

theorem bytes10_yes (a0 a1 : Option Addr) (n0 c0 n1 c1 : Nat) (w : World) (h : n0 + n1 ≤ 1048576) :
    Calls Try.prog 10 #[.slice a0 n0 c0, .slice a1 n1 c1] w fun e w' => e = .returned (.bool true) ∧ w = w' := by
  have h1 : n0 ≤ 1048576 := by omega
  have h2 : n1 ≤ 1048576 := by omega
  go_enter Try.func10, Try.ntmps10
  go_wp2
  go_ret
  exact ⟨rfl, rfl⟩

theorem bytes10_no (a0 a1 : Option Addr) (n0 c0 n1 c1 : Nat) (w : World) (h : ¬ n0 + n1 ≤ 1048576) :
    Calls Try.prog 10 #[.slice a0 n0 c0, .slice a1 n1 c1] w fun e w' => e = .returned (.bool false) ∧ w = w' := by
  by_cases h1 : n0 ≤ 1048576
  · by_cases h2 : n1 ≤ 1048576
    · go_enter Try.func10, Try.ntmps10
      go_wp2
      go_ret
      exact ⟨rfl, rfl⟩
    · go_enter Try.func10, Try.ntmps10
      go_wp2
      go_ret
      exact ⟨rfl, rfl⟩
  · go_enter Try.func10, Try.ntmps10
    go_wp2
    go_ret
    exact ⟨rfl, rfl⟩

theorem u24_of (b n c p x : Nat) (w : World) (hn : n ≤ 16777216) (hp : p + 3 ≤ n) (hx : x < 16777216) (h : ∀ j, j < 3 → w.cell? ⟨b, p + j, none⟩ = some (.int .u8 ((n24 x).getD j 0))) :
    Calls Try.prog 14 #[.slice (some ⟨b, 0, none⟩) n c, .int .i64 p] w fun e w' => e = .returned (.int .i64 x) ∧ ∃ m, w' = w.drewN m := by
  refine (u24_any b 0 n c p _ _ _ w hn hp (by rw [Nat.zero_add]; exact h 0 (by omega)) (by rw [Nat.zero_add]; exact h 1 (by omega)) (by rw [Nat.zero_add]; exact h 2 (by omega)) (by simp [n24]; omega) (by simp [n24]; omega) (by simp [n24]; omega)).mono ?_
  rintro e w' ⟨rfl, hw⟩
  refine ⟨ret_int ?_, hw⟩
  simp [n24]
  omega

theorem getD_cat (A B : List Int) (j : Nat) : (A ++ B).getD (A.length + j) 0 = B.getD j 0 := by
  simp [List.getD, List.getElem?_append_right]

theorem getD_head (A B : List Int) (j : Nat) (h : j < A.length) : (A ++ B).getD j 0 = A.getD j 0 := by
  simp [List.getD, List.getElem?_append_left, h]

theorem n24_length (x : Nat) : (n24 x).length = 3 := rfl

set_option maxHeartbeats 2000000 in
theorem core1 (a0 a1 : Option Addr) (c0 c1 : Nat) (Lb Lv : List Int) (w : World) (hsum : Lb.length + Lv.length ≤ 1048576)
    (n0 : a0 = none → Lb.length = 0 ∧ c0 = 0) (n1 : a1 = none → Lv.length = 0 ∧ c1 = 0)
    (d0 : ∀ ad, a0 = some ad → ∀ j, j < Lb.length → w.cell? (ad.add j) = some (.int .u8 (Lb.getD j 0))) (d1 : ∀ ad, a1 = some ad → ∀ j, j < Lv.length → w.cell? (ad.add j) = some (.int .u8 (Lv.getD j 0))) :
    Calls Try.prog 3 #[.slice a0 Lb.length c0, .slice a1 Lv.length c1] w fun e w' => e = .returned (.bool true) ∧ Below w.heap.size w w' := by
  have l0 : Lb.length ≤ 1048576 := by omega
  have l1 : Lv.length ≤ 1048576 := by omega
  have N0 := hide n0
  have N1 := hide n1
  have D0 := hide d0
  have D1 := hide d1
  clear n0 n1 d0 d1
  go_enter Try.func3, Try.ntmps3
  go_wp2_with fail
  refine (bytes10_yes a0 a1 _ c0 _ c1 w hsum).mono ?_
  rintro e w' ⟨rfl, rfl⟩
  go_wp2_with fail
  refine (clone_any a0 _ c0 Lb _ rfl (by omega) N0.out D0.out).mono ?_
  rintro e w1 ⟨vb, rfl, ob, gb, nb⟩
  have D1' : Hid (∀ ad, a1 = some ad → ∀ j, j < Lv.length → w1.cell? (ad.add j) = some (.int .u8 (Lv.getD j 0))) := fun ad h j hj => cell_later (grownBy_below gb (Nat.le_refl _) (by simp)) (D1.out ad h j hj)
  go_wp2_with fail
  refine (clone_any a1 _ c1 Lv _ rfl (by omega) N1.out D1'.out).mono ?_
  rintro e w2 ⟨vv, rfl, ov, gv, nv⟩
  have ob2 := ob.kept gv (none_or _)
  obtain ⟨ab, cb, rfl, hb0, hb1, hb2, hbc⟩ := ob2.slice
  have HB0 := hide hb0
  have HBC := hide (fun ad h => (hbc ad h).2)
  clear hb0 hbc
  go_wp2_with fail
  refine (clone_any ab _ cb Lb _ rfl (by omega) HB0.out HBC.out).mono ?_
  rintro e w3 ⟨vk, rfl, ok, gk, nk⟩
  have ob3 := ob2.kept gk (none_or _)
  have ov3 := ov.kept gk (none_or _)
  have hvb : vv.ownBlock = none ∨ vv.ownBlock ≠ (Value.slice ab Lb.length cb).ownBlock := by
    rcases none_or vv.ownBlock with h | h
    · exact .inl h
    · refine .inr fun e => ?_
      obtain ⟨k, hk⟩ := Option.ne_none_iff_exists'.1 h
      have := nv k hk
      have := ob.lt k (e ▸ hk)
      omega
  have hkb : vk.ownBlock = none ∨ vk.ownBlock ≠ (Value.slice ab Lb.length cb).ownBlock := by
    rcases none_or vk.ownBlock with h | h
    · exact .inl h
    · refine .inr fun e => ?_
      obtain ⟨k, hk⟩ := Option.ne_none_iff_exists'.1 h
      have := nk k hk
      have := ob2.lt k (e ▸ hk)
      omega
  have HVB := hide hvb
  have HKB := hide hkb
  clear hvb hkb
  go_wp2_with fail
  refine (zzappendVec24_any _ vv Lb Lv w3 ob3 ov3 HVB.out (by omega) l1).mono ?_
  rintro e w4 ⟨vo, rfl, oo, go, no⟩
  have ok4 := ok.kept go HKB.out
  have ov4 := ov3.kept go HVB.out
  have hbel : Below w.heap.size w w4 := by
    have s1 := gb.size
    have s2 := gv.size
    have s3 := gk.size
    refine (grownBy_below gb (Nat.le_refl _) (by simp)).trans ((grownBy_below gv (by omega) (by simp)).trans ((grownBy_below gk (by omega) (by simp)).trans (grownBy_below go (by omega) nb)))
  obtain ⟨g, co, rfl, hc1, hc2, hcc⟩ : ∃ g co, vo = .slice (some ⟨g, 0, none⟩) (Lb.length + 3 + Lv.length) co ∧ Lb.length + 3 + Lv.length ≤ co ∧ co ≤ maxLen ∧ ∀ j, j < Lb.length + 3 + Lv.length → w4.cell? ⟨g, j, none⟩ = some (.int .u8 ((Lb ++ (n24 Lv.length ++ Lv)).getD j 0)) := by
    have el : (Lb ++ (n24 Lv.length ++ Lv)).length = Lb.length + 3 + Lv.length := by simp [n24]; omega
    rcases oo.form with ⟨_, h⟩ | ⟨g, co, rfl, h1, h2, h3⟩
    · have := congrArg List.length h; rw [el] at this; simp at this
    · rw [el] at h1 h3 ⊢
      exact ⟨g, co, rfl, h1, h2, h3⟩
  obtain ⟨ak, ck, rfl, hk0, hk1, hk2, hkc⟩ := ok4.slice
  obtain ⟨av, cv, rfl, hv0, hv1, hv2, hvc⟩ := ov4.slice
  have HK := hide hkc
  have HV := hide hvc
  have HC := hide hcc
  have K0 := hide hk0
  have V0 := hide hv0
  have Hbel := hide hbel
  unfold maxLen at hc2
  clear hkc hvc hcc hk0 hv0 hbel ok4 ov4 oo ob ob2 ob3 ov ov3 ok go no gb gv gk nb nv nk hk1 hk2 hv1 hv2 hb1 hb2 N0 N1 D0 D1 D1' HB0 HBC HVB HKB
  go_wp2_with fail
  refine (eq_any _ _ _ _ _ Lb _ (by omega) ?e1).mono ?_
  case e1 =>
    intro hp
    cases ak with
    | none => have := (K0.out rfl).1; omega
    | some ad =>
      obtain ⟨⟨gk, rfl⟩, hk⟩ := HK.out ad rfl
      refine ⟨g, 0, gk, 0, rfl, rfl, fun i hi => ?_, fun i hi => ?_⟩
      · rw [Nat.zero_add, HC.out i (by omega), getD_head _ _ _ hi]
      · rw [← Addr.add_lit]; exact hk i hi
  rintro e w5 ⟨rfl, m5, rfl⟩
  go_wp2_with fail
  refine (u24_of g _ co Lb.length Lv.length _ (by omega) (by omega) (by omega) ?u1).mono ?_
  case u1 =>
    intro j hj
    have h1 := HC.out (Lb.length + j) (by omega)
    rw [getD_cat, getD_head _ _ _ (by rw [n24_length]; exact hj)] at h1
    exact cell_later (below_drewN ⟨m5, rfl⟩) h1
  rintro e w6 ⟨rfl, m6, rfl⟩
  go_wp2_with fail
  · refine (eq_any _ _ _ _ _ Lv _ (by omega) (fun hp => by omega)).mono ?_
    rintro e w7 ⟨rfl, m7, rfl⟩
    go_wp2
    go_ret
    exact ⟨rfl, Hbel.out.trans ((below_drewN ⟨_, rfl⟩).mono Hbel.out.size)⟩
  · refine (eq_any _ _ _ _ _ Lv _ (by omega) ?f1).mono ?_
    case f1 =>
      intro hp
      cases av with
      | none => have := (V0.out rfl).1; omega
      | some ad =>
        obtain ⟨⟨gv, rfl⟩, hv⟩ := HV.out ad rfl
        have hbd : Below w4.heap.size w4 (w4.drewN (m5 + m6)) := below_drewN ⟨_, rfl⟩
        refine ⟨g, Lb.length + 3, gv, 0, rfl, rfl, fun i hi => ?_, fun i hi => ?_⟩
        · have h1 := HC.out (Lb.length + 3 + i) (by omega)
          rw [Nat.add_assoc Lb.length 3 i, getD_cat, show 3 + i = (n24 Lv.length).length + i from rfl, getD_cat, ← Nat.add_assoc] at h1
          exact cell_later hbd h1
        · rw [← Addr.add_lit]; exact cell_later hbd (hv i hi)
    rintro e w7 ⟨rfl, m7, rfl⟩
    go_wp2
    go_ret
    exact ⟨rfl, Hbel.out.trans ((below_drewN ⟨_, rfl⟩).mono Hbel.out.size)⟩

theorem big1 (a0 a1 : Option Addr) (n0 c0 n1 c1 : Nat) (w : World) (h : ¬ n0 + n1 ≤ 1048576) :
    Calls Try.prog 3 #[.slice a0 n0 c0, .slice a1 n1 c1] w fun e w' => e = .returned (.bool true) ∧ Below w.heap.size w w' := by
  go_enter Try.func3, Try.ntmps3
  go_wp2_with fail
  refine (bytes10_no a0 a1 _ c0 _ c1 w h).mono ?_
  rintro e w' ⟨rfl, rfl⟩
  go_wp2
  go_ret
  exact ⟨rfl, Below.refl _ _⟩

end Go.Proofs.Qxb6604433a
