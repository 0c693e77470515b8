import Derived.Test.Qxb6604433aReads
namespace Go.Proofs.Qxb6604433a
open Go.RowKit

theorem bytes15_yes (a0 a1 : Option Addr) (n0 c0 n1 c1 : Nat) (w : World) (h : n0 + n1 ≤ 1048576) :
    Calls Try.prog 15 #[.slice a0 n0 c0, .slice a1 n1 c1] w fun e w' => e = .returned (.bool true) ∧ w = w' := by
  have h1 : n0 ≤ 1048576 := by omega
  have h2 : n1 ≤ 1048576 := by omega
  go_enter Try.func15, Try.ntmps15
  go_wp2
  go_ret
  exact ⟨rfl, rfl⟩

theorem bytes15_no (a0 a1 : Option Addr) (n0 c0 n1 c1 : Nat) (w : World) (h : ¬ n0 + n1 ≤ 1048576) :
    Calls Try.prog 15 #[.slice a0 n0 c0, .slice a1 n1 c1] w fun e w' => e = .returned (.bool false) ∧ w = w' := by
  by_cases h1 : n0 ≤ 1048576
  · by_cases h2 : n1 ≤ 1048576
    · go_enter Try.func15, Try.ntmps15
      go_wp2
      go_ret
      exact ⟨rfl, rfl⟩
    · go_enter Try.func15, Try.ntmps15
      go_wp2
      go_ret
      exact ⟨rfl, rfl⟩
  · go_enter Try.func15, Try.ntmps15
    go_wp2
    go_ret
    exact ⟨rfl, rfl⟩

theorem u24_at (b n c p x : Nat) (q : Int) (w : World) (hq : q = (p : Int)) (hn : n ≤ 16777216) (hp : p + 3 ≤ n) (hx : x < 16777216) (h : ∀ j, j < 3 → w.cell? ⟨b, p + j, none⟩ = some (.int .u8 ((n24 x).getD j 0))) :
    Calls Try.prog 14 #[.slice (some ⟨b, 0, none⟩) n c, .int .i64 q] w fun e w' => e = .returned (.int .i64 x) ∧ ∃ m, w' = w.drewN m := by
  subst hq
  exact u24_of b n c p x w hn hp hx h

theorem eq_two (a1 a2 : Option Addr) (n1 n2 c1 c2 : Nat) (L : List Int) (w : World) (h12 : n1 = n2) (hn : n2 ≤ 16777216)
    (h : 0 < n2 → ∃ b1 o1 b2 o2, a1 = some ⟨b1, o1, none⟩ ∧ a2 = some ⟨b2, o2, none⟩ ∧ (∀ i, i < n2 → w.cell? ⟨b1, o1 + i, none⟩ = some (.int .u8 (L.getD i 0))) ∧ ∀ i, i < n2 → w.cell? ⟨b2, o2 + i, none⟩ = some (.int .u8 (L.getD i 0))) :
    Calls Try.prog 13 #[.slice a1 n1 c1, .slice a2 n2 c2] w fun e w' => e = .returned (.bool true) ∧ ∃ m, w' = w.drewN m := by
  subst h12
  exact eq_any a1 a2 n1 c1 c2 L w hn h

set_option maxHeartbeats 2000000 in
theorem core2 (a0 a1 : Option Addr) (c0 c1 : Nat) (La Lc : List Int) (w : World) (hsum : La.length + Lc.length ≤ 1048576)
    (n0 : a0 = none → La.length = 0 ∧ c0 = 0) (n1 : a1 = none → Lc.length = 0 ∧ c1 = 0)
    (d0 : ∀ ad, a0 = some ad → ∀ j, j < La.length → w.cell? (ad.add j) = some (.int .u8 (La.getD j 0))) (d1 : ∀ ad, a1 = some ad → ∀ j, j < Lc.length → w.cell? (ad.add j) = some (.int .u8 (Lc.getD j 0))) :
    Calls Try.prog 4 #[.slice a0 La.length c0, .slice a1 Lc.length c1] w fun e w' => e = .returned (.bool true) ∧ Below w.heap.size w w' := by
  have l0 : La.length ≤ 1048576 := by omega
  have l1 : Lc.length ≤ 1048576 := by omega
  have N0 := hide n0
  have N1 := hide n1
  have D0 := hide d0
  have D1 := hide d1
  clear n0 n1 d0 d1
  go_enter Try.func4, Try.ntmps4
  go_wp2_with fail
  refine (bytes15_yes a0 a1 _ c0 _ c1 w hsum).mono ?_
  rintro e w' ⟨rfl, rfl⟩
  go_wp2_with fail
  refine (clone_any a0 _ c0 La _ rfl (by omega) N0.out D0.out).mono ?_
  rintro e w1 ⟨va, rfl, oa, ga, na⟩
  have D1' : Hid (∀ ad, a1 = some ad → ∀ j, j < Lc.length → w1.cell? (ad.add j) = some (.int .u8 (Lc.getD j 0))) := fun ad h j hj => cell_later (grownBy_below ga (Nat.le_refl _) (by simp)) (D1.out ad h j hj)
  go_wp2_with fail
  refine (clone_any a1 _ c1 Lc _ rfl (by omega) N1.out D1'.out).mono ?_
  rintro e w2 ⟨vc, rfl, oc, gc, nc⟩
  have oa2 := oa.kept gc (none_or _)
  go_wp2_with fail
  refine (zzappendVec24_any (.slice none 0 0) va [] La w2 (own_nil _) oa2 (none_or _) (by simp) l0).mono ?_
  rintro e w3 ⟨v1, rfl, o1, g1, b1⟩
  have g1' : w2.grownBy w3 none := g1
  have oa3 := oa2.kept g1' (none_or _)
  have oc3 := oc.kept g1' (none_or _)
  have b1' : ∀ k, v1.ownBlock = some k → w2.heap.size ≤ k := fun k hk => (b1 k hk).resolve_left (fun h => by cases h)
  have hca : ∀ v : Value, (∀ k, v.ownBlock = some k → k < w2.heap.size) → v.ownBlock = none ∨ v.ownBlock ≠ v1.ownBlock := by
    intro v hv
    rcases none_or v.ownBlock with h | h
    · exact .inl h
    · refine .inr fun e => ?_
      obtain ⟨k, hk⟩ := Option.ne_none_iff_exists'.1 h
      have := hv k hk
      have := b1' k (e ▸ hk)
      omega
  have HC1 := hide (hca vc oc.lt)
  have HA1 := hide (hca va oa2.lt)
  clear hca b1 g1
  go_wp2_with fail
  refine (zzappendVec24_any v1 vc _ Lc w3 o1 oc3 HC1.out (by simp [n24]; omega) l1).mono ?_
  rintro e w4 ⟨vo, rfl, oo, go, no⟩
  have oa4 := oa3.kept go HA1.out
  have oc4 := oc3.kept go HC1.out
  have hbel : Below w.heap.size w w4 := by
    have s1 := ga.size
    have s2 := gc.size
    have s3 := g1'.size
    refine (grownBy_below ga (Nat.le_refl _) (by simp)).trans ((grownBy_below gc (by omega) (by simp)).trans ((grownBy_below g1' (by omega) (by simp)).trans (grownBy_below go (by omega) (fun k hk => by have := b1' k hk; omega))))
  obtain ⟨g, co, rfl, hc1, hc2, hcc⟩ : ∃ g co, vo = .slice (some ⟨g, 0, none⟩) (6 + La.length + Lc.length) co ∧ 6 + La.length + Lc.length ≤ co ∧ co ≤ maxLen ∧ ∀ j, j < 6 + La.length + Lc.length → w4.cell? ⟨g, j, none⟩ = some (.int .u8 ((n24 La.length ++ (La ++ (n24 Lc.length ++ Lc))).getD j 0)) := by
    rw [List.nil_append, List.append_assoc] at oo
    have el : (n24 La.length ++ (La ++ (n24 Lc.length ++ Lc))).length = 6 + La.length + Lc.length := by simp [n24]; omega
    rcases oo.form with ⟨_, h⟩ | ⟨g, co, rfl, h1, h2, h3⟩
    · have := congrArg List.length h; rw [el] at this; simp at this
    · rw [el] at h1 h3 ⊢
      exact ⟨g, co, rfl, h1, h2, h3⟩
  obtain ⟨aa, ca, rfl, ha0, ha1, ha2, hac⟩ := oa4.slice
  obtain ⟨ac, cc, rfl, hd0, hd1, hd2, hdc⟩ := oc4.slice
  have HA := hide hac
  have HD := hide hdc
  have HC := hide hcc
  have A0 := hide ha0
  have C0 := hide hd0
  have Hbel := hide hbel
  unfold maxLen at hc2
  clear hac hdc hcc ha0 hd0 hbel oa4 oc4 oo oa oa2 oa3 oc oc3 go no ga gc g1' b1' na nc o1 ha1 ha2 hd1 hd2 N0 N1 D0 D1 D1' HC1 HA1
  go_wp2_with fail
  refine (u24_of g _ co 0 La.length _ (by omega) (by omega) (by omega) ?u1).mono ?_
  case u1 =>
    intro j hj
    have h1 := HC.out j (by omega)
    rw [getD_head _ _ _ (by rw [n24_length]; exact hj)] at h1
    rw [Nat.zero_add]; exact h1
  rintro e w5 ⟨rfl, m5, rfl⟩
  go_wp2_with fail
  refine (u24_at g _ co (3 + La.length) Lc.length _ _ (by omega) (by omega) (by omega) (by omega) ?u2).mono ?_
  case u2 =>
    intro j hj
    have h1 := HC.out (3 + La.length + j) (by omega)
    rw [show 3 + La.length + j = (n24 La.length).length + (La.length + j) from by rw [n24_length]; omega, getD_cat, getD_cat, getD_head _ _ _ (by rw [n24_length]; exact hj), n24_length, ← Nat.add_assoc] at h1
    exact cell_later (below_drewN ⟨_, rfl⟩) h1
  rintro e w6 ⟨rfl, m6, rfl⟩
  go_wp2_with fail
  refine (eq_two _ _ _ _ _ _ La _ (by omega) (by omega) ?e1).mono ?_
  case e1 =>
    intro hp
    cases aa with
    | none => have := (A0.out rfl).1; omega
    | some ad =>
      obtain ⟨⟨ga, rfl⟩, ha⟩ := HA.out ad rfl
      have hbd : Below w4.heap.size w4 (w4.drewN (m5 + m6)) := below_drewN ⟨_, rfl⟩
      refine ⟨g, 3, ga, 0, rfl, rfl, fun i hi => ?_, fun i hi => ?_⟩
      · have h1 := HC.out (3 + i) (by omega)
        rw [show 3 + i = (n24 La.length).length + i from rfl, getD_cat, getD_head _ _ _ hi] at h1
        exact cell_later hbd h1
      · rw [← Addr.add_lit]; exact cell_later hbd (ha i hi)
  rintro e w7 ⟨rfl, m7, rfl⟩
  go_wp2_with fail
  · refine (eq_two _ _ _ _ _ _ Lc _ (by omega) (by omega) (fun hp => by omega)).mono ?_
    rintro e w8 ⟨rfl, m8, rfl⟩
    go_wp2
    go_ret
    exact ⟨rfl, Hbel.out.trans ((below_drewN ⟨_, rfl⟩).mono Hbel.out.size)⟩
  · refine (eq_two _ _ _ _ _ _ Lc _ (by omega) (by omega) ?f1).mono ?_
    case f1 =>
      intro hp
      cases ac with
      | none => have := (C0.out rfl).1; omega
      | some ad =>
        obtain ⟨⟨gc, rfl⟩, hv⟩ := HD.out ad rfl
        have hbd : Below w4.heap.size w4 (w4.drewN (m5 + m6 + m7)) := below_drewN ⟨_, rfl⟩
        refine ⟨g, 3 + La.length + 3, gc, 0, rfl, rfl, fun i hi => ?_, fun i hi => ?_⟩
        · have h1 := HC.out (3 + La.length + 3 + i) (by omega)
          rw [show 3 + La.length + 3 + i = (n24 La.length).length + (La.length + ((n24 Lc.length).length + i)) from by rw [n24_length, n24_length]; omega, getD_cat, getD_cat, getD_cat, n24_length, n24_length] at h1
          rw [show 3 + La.length + 3 + i = 3 + (La.length + (3 + i)) from by omega]
          exact cell_later hbd h1
        · rw [← Addr.add_lit]; exact cell_later hbd (hv i hi)
    rintro e w8 ⟨rfl, m8, rfl⟩
    go_wp2
    go_ret
    exact ⟨rfl, Hbel.out.trans ((below_drewN ⟨_, rfl⟩).mono Hbel.out.size)⟩

theorem big2 (a0 a1 : Option Addr) (n0 c0 n1 c1 : Nat) (w : World) (h : ¬ n0 + n1 ≤ 1048576) :
    Calls Try.prog 4 #[.slice a0 n0 c0, .slice a1 n1 c1] w fun e w' => e = .returned (.bool true) ∧ Below w.heap.size w w' := by
  go_enter Try.func4, Try.ntmps4
  go_wp2_with fail
  refine (bytes15_no a0 a1 _ c0 _ c1 w h).mono ?_
  rintro e w' ⟨rfl, rfl⟩
  go_wp2
  go_ret
  exact ⟨rfl, Below.refl _ _⟩

end Go.Proofs.Qxb6604433a
