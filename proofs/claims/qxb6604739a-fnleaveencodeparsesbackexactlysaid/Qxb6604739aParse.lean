import Derived.Test.Qxb6604739aTests
namespace Go.Proofs.Qxb6604739a
open Go.RowKit

theorem expect_to (g n c p P' : Nat) (s : ByteArray) (q : Int) (w : World) (hq : q = (p : Int)) (hP : p + (es s).length = P') (hn : n ≤ 268435456) (hs : s.size ≤ 1048576) (hp : P' ≤ n) (hat : At w g p (es s)) :
    Calls Try.prog 9 #[.slice (some ⟨g, 0, none⟩) n c, .int .i64 q, .string s] w fun e w' => e = .returned (.tuple #[.int .i64 P', .bool true]) ∧ ∃ m, w' = w.drewN m := by
  subst hP
  exact expect_any g n c p s q w hq hn hs hp hat

theorem count_to (g n c p P' x : Nat) (q : Int) (w : World) (hq : q = (p : Int)) (hP : p + (uv x).length = P') (hn : n ≤ 268435456) (hx : x < 2097152) (hp : P' ≤ n) (hat : At w g p (uv x)) :
    Calls Try.prog 10 #[.slice (some ⟨g, 0, none⟩) n c, .int .i64 q, .int .i64 x] w fun e w' => e = .returned (.tuple #[.int .i64 P', .bool true]) ∧ w = w' := by
  subst hP
  exact count_any g n c p x q w hq hn hx hp hat

theorem eas_split (A : List (ByteArray × ByteArray)) (k : Nat) (h : k < A.length) : eas A = eas (A.take k) ++ (ea (nth A k) ++ eas (A.drop (k + 1))) := by
  have e : nth A k = A[k] := by simp [nth, h]
  have h1 : A = A.take k ++ A[k] :: A.drop (k + 1) := by rw [List.getElem_cons_drop, List.take_append_drop]
  have h2 : eas A = eas (A.take k ++ A[k] :: A.drop (k + 1)) := by rw [← h1]
  rw [h2, e]
  simp only [eas, List.map_append, List.flatten_append, List.map_cons, List.flatten_cons]

theorem At.arc {w : World} {g P : Nat} {A : List (ByteArray × ByteArray)} (h : At w g P (eas A)) (k : Nat) (hk : k < A.length) :
    At w g (P + (eas (A.take k)).length) (es (nth A k).1) ∧ At w g (P + (eas (A.take k)).length + (es (nth A k).1).length) (es (nth A k).2) := by
  rw [eas_split A k hk] at h
  have h1 := h.right.left
  exact ⟨h1.left, h1.right⟩

/-- where each part of the Leave begins -/
structure Places (l : Lv) (P0 P1 P2 P3 P4 P5 P6 P7 P8 P9 P10 : Nat) : Prop where
  e1 : P0 + (es l.peer).length = P1
  e2 : P1 + (es l.frm).length = P2
  e3 : P2 + (es l.to).length = P3
  e4 : P3 + (es l.pp).length = P4
  e5 : P4 + (es l.pf).length = P5
  e6 : P5 + (uv l.arcs.length).length = P6
  e7 : P6 + (eas l.arcs).length = P7
  e8 : P7 + (es l.bf).length = P8
  e9 : P8 + (es l.bt).length = P9
  e10 : P9 + (es l.bp).length = P10

/-- what lies there -/
structure Parts (w : World) (g : Nat) (l : Lv) (P0 P1 P2 P3 P4 P5 P6 P7 P8 P9 : Nat) : Prop where
  a1 : At w g P0 (es l.peer)
  a2 : At w g P1 (es l.frm)
  a3 : At w g P2 (es l.to)
  a4 : At w g P3 (es l.pp)
  a5 : At w g P4 (es l.pf)
  a6 : At w g P5 (uv l.arcs.length)
  a7 : At w g P6 (eas l.arcs)
  a8 : At w g P7 (es l.bf)
  a9 : At w g P8 (es l.bt)
  a10 : At w g P9 (es l.bp)

theorem parts_of {w : World} {g : Nat} {l : Lv} {P0 P1 P2 P3 P4 P5 P6 P7 P8 P9 P10 : Nat} (h : At w g P0 (el l)) (p : Places l P0 P1 P2 P3 P4 P5 P6 P7 P8 P9 P10) : Parts w g l P0 P1 P2 P3 P4 P5 P6 P7 P8 P9 := by
  obtain ⟨rfl, rfl, rfl, rfl, rfl, rfl, rfl, rfl, rfl, rfl⟩ := p
  have h1 := h.right
  have h2 := h1.right
  have h3 := h2.right
  have h4 := h3.right
  have h5 := h4.right
  have h6 := h5.right
  have h7 := h6.right
  have h8 := h7.right
  have h9 := h8.right
  exact ⟨h.left, h1.left, h2.left, h3.left, h4.left, h5.left, h6.left, h7.left, h8.left, h9⟩

theorem Parts.later {w w' : World} {g : Nat} {l : Lv} {P0 P1 P2 P3 P4 P5 P6 P7 P8 P9 : Nat} (h : Parts w g l P0 P1 P2 P3 P4 P5 P6 P7 P8 P9) (b : Below w.heap.size w w') : Parts w' g l P0 P1 P2 P3 P4 P5 P6 P7 P8 P9 :=
  ⟨h.a1.later b, h.a2.later b, h.a3.later b, h.a4.later b, h.a5.later b, h.a6.later b, h.a7.later b, h.a8.later b, h.a9.later b, h.a10.later b⟩

theorem el_length (l : Lv) {P0 P1 P2 P3 P4 P5 P6 P7 P8 P9 P10 : Nat} (p : Places l P0 P1 P2 P3 P4 P5 P6 P7 P8 P9 P10) : P0 + (el l).length = P10 := by
  obtain ⟨rfl, rfl, rfl, rfl, rfl, rfl, rfl, rfl, rfl, rfl⟩ := p
  simp only [el, List.length_append]
  omega

/-- the prefix that came in -/
def PreIn (w : World) (a0 : Option Addr) (c0 : Nat) (L : List Int) : Prop :=
  (a0 = none → L.length = 0 ∧ c0 = 0) ∧ (∀ ad, a0 = some ad → ∀ j, j < L.length → w.cell? (ad.add j) = some (.int .u8 (L.getD j 0))) ∧ (0 < L.length → ∃ b o, a0 = some ⟨b, o, none⟩ ∧ ∀ j, j < L.length → w.cell? ⟨b, o + j, none⟩ = some (.int .u8 (L.getD j 0)))

set_option maxRecDepth 100000 in
set_option maxHeartbeats 3200000 in
theorem early (a0 ap : Option Addr) (c0 cp : Nat) (Lp : List Int) (l : Lv) (w : World) (h0 : PreIn w a0 c0 Lp) (hp : ProvIn w ap cp l.arcs) :
    Calls Try.prog 3 #[.slice a0 Lp.length c0, .string l.peer, .string l.frm, .string l.to, .string l.pp, .string l.pf, .slice ap l.arcs.length cp, .string l.bf, .string l.bt, .string l.bp] w fun e w' => e = .returned (.bool true) ∧ Below w.heap.size w w' := by
  have H0 := hide h0
  have HP := hide hp
  clear h0 hp
  go_enter Try.func3, Try.ntmps3
  go_wp2_with fail
  refine (bytes4_any a0 ap _ c0 cp l w HP.out).mono ?_
  rintro e w' ⟨⟨r, rfl⟩, rfl⟩
  cases r with
  | false =>
    go_wp2
    go_ret
    exact ⟨rfl, Below.refl _ _⟩
  | true =>
    go_wp2_with fail
    refine (tooBig_any a0 ap _ c0 cp l w HP.out).mono ?_
    rintro e w' ⟨hb, m1, rfl⟩
    rcases hb with rfl | ⟨rfl, hl0, hsh⟩
    · go_wp2
      go_ret
      exact ⟨rfl, below_drewN ⟨_, rfl⟩⟩
    · have HSh := hide hsh
      have hB1 : Below w.heap.size w (w.drewN m1) := below_drewN ⟨_, rfl⟩
      have hna := hsh.n
      clear hsh
      go_wp2_with fail
      refine (clone_any a0 _ c0 Lp _ rfl (by omega) H0.out.1 (fun ad h j hj => cell_later hB1 (H0.out.2.1 ad h j hj))).mono ?_
      rintro e w2 ⟨vp, rfl, op, gp, np⟩
      have hB2 : Below w.heap.size w w2 := hB1.trans (grownBy_below gp (hB1.size) (by simp))
      have hp2 : Hid (ProvIn w2 ap cp l.arcs) := ⟨HP.out.1, fun h => by obtain ⟨b, o, e, q0, q1⟩ := HP.out.2 h; exact ⟨b, o, e, fun i hi => cell_later hB2 (q0 i hi), fun i hi => cell_later hB2 (q1 i hi)⟩⟩
      go_wp2_with fail
      refine (leave_any l ap cp w2 hna hp2.out).mono ?_
      rintro e w3 ⟨bm, ga, av, rfl, hm, ha, hb3, hbm, hga⟩
      have op3 := op.kept (below_grownBy hb3 none) (none_or _)
      have hvlt : ∀ k, vp.ownBlock = some k → k < w2.heap.size := op.lt
      have HM := hide hm
      have HA := hide ha
      have HV : Hid (vp.ownBlock ≠ some bm) := fun e => by have := hvlt bm e; omega
      have HG : Hid (0 < l.arcs.length → vp.ownBlock ≠ some ga ∧ ga < w3.heap.size) := fun h => ⟨fun e => by have := hvlt ga e; have := (hga h).1; omega, (hga h).2⟩
      have HB3 : Hid (Below w.heap.size w w3) := hB2.trans (hb3.mono hB2.size)
      have HN : Hid (∀ k, vp.ownBlock = some k → w.heap.size ≤ k) := fun k hk => by have := np k hk; have := hB1.size; omega
      have HO := hide op3
      clear hm ha hga hb3 hbm op gp np op3 hvlt hp2 hB1 hB2
      go_wp2_with fail
      refine (encodeLeave_any bm ga vp av Lp l w3 HO.out HSh.out (by omega) HM.out HA.out HV.out HG.out).mono ?_
      rintro e w4 ⟨vo, rfl, oo, go⟩
      have hB4 : Below w.heap.size w w4 := HB3.out.trans (grownBy_below go HB3.out.size HN.out)
      obtain ⟨P1, P2, P3, P4, P5, P6, P7, P8, P9, P10, hpl⟩ : ∃ P1 P2 P3 P4 P5 P6 P7 P8 P9 P10, Places l Lp.length P1 P2 P3 P4 P5 P6 P7 P8 P9 P10 := ⟨_, _, _, _, _, _, _, _, _, _, rfl, rfl, rfl, rfl, rfl, rfl, rfl, rfl, rfl, rfl⟩
      have hel := el_length l hpl
      have hup := uv_pos l.arcs.length
      obtain ⟨g, co, rfl, hc1, hc2, hat⟩ : ∃ g co, vo = .slice (some ⟨g, 0, none⟩) P10 co ∧ P10 ≤ co ∧ co ≤ maxLen ∧ At w4 g 0 (Lp ++ el l) := by
        have e1 : (Lp ++ el l).length = P10 := by rw [List.length_append]; exact hel
        rcases oo.form with ⟨_, h⟩ | ⟨g, co, rfl, q1, q2, q3⟩
        · have := congrArg List.length h
          rw [e1] at this
          simp at this
          have := hpl.e6
          have := hpl.e7
          have := hpl.e8
          have := hpl.e9
          have := hpl.e10
          omega
        · rw [e1] at q1 ⊢
          exact ⟨g, co, rfl, q1, q2, fun j hj => by rw [Nat.zero_add]; exact q3 j hj⟩
      have hpre : At w4 g 0 Lp := hat.left
      have hparts : Parts w4 g l Lp.length P1 P2 P3 P4 P5 P6 P7 P8 P9 := parts_of (by have := hat.right; rw [Nat.zero_add] at this; exact this) hpl
      have hbig : P10 ≤ 16777216 := by
        have k1 := es_le l.peer HSh.out.peer
        have k2 := es_le l.frm HSh.out.frm
        have k3 := es_le l.to HSh.out.to
        have k4 := es_le l.pp HSh.out.pp
        have k5 := es_le l.pf HSh.out.pf
        have k6 := uv_length (x := l.arcs.length) (by omega)
        have k7 := HSh.out.all
        have k8 := es_le l.bf HSh.out.bf
        have k9 := es_le l.bt HSh.out.bt
        have k10 := es_le l.bp HSh.out.bp
        have := hpl.e1; have := hpl.e2; have := hpl.e3; have := hpl.e4; have := hpl.e5; have := hpl.e6; have := hpl.e7; have := hpl.e8; have := hpl.e9; have := hpl.e10
        omega
      have hle : Lp.length ≤ P1 ∧ P1 ≤ P2 ∧ P2 ≤ P3 ∧ P3 ≤ P4 ∧ P4 ≤ P5 ∧ P5 ≤ P6 ∧ P6 ≤ P7 ∧ P7 ≤ P8 ∧ P8 ≤ P9 ∧ P9 ≤ P10 := by
        have := hpl.e1; have := hpl.e2; have := hpl.e3; have := hpl.e4; have := hpl.e5; have := hpl.e6; have := hpl.e7; have := hpl.e8; have := hpl.e9; have := hpl.e10
        omega
      have H0' : Hid (0 < Lp.length → ∃ b o, a0 = some ⟨b, o, none⟩ ∧ ∀ j, j < Lp.length → w4.cell? ⟨b, o + j, none⟩ = some (.int .u8 (Lp.getD j 0))) := fun h => by obtain ⟨b, o, e, q⟩ := H0.out.2.2 h; exact ⟨b, o, e, fun j hj => cell_later hB4 (q j hj)⟩
      have HP' : Hid (0 < l.arcs.length → ∃ b o, ap = some ⟨b, o, none⟩ ∧ (∀ i, i < l.arcs.length → w4.cell? ⟨b, o + i * 2, none⟩ = some (.string (nth l.arcs i).1)) ∧ ∀ i, i < l.arcs.length → w4.cell? ⟨b, o + i * 2 + 1, none⟩ = some (.string (nth l.arcs i).2)) := fun h => by obtain ⟨b, o, e, q0, q1⟩ := HP.out.2 h; exact ⟨b, o, e, fun i hi => cell_later hB4 (q0 i hi), fun i hi => cell_later hB4 (q1 i hi)⟩
      have HB4 := hide hB4
      have HPL := hide hpl
      have HAT := hide hpre
      have HPT := hide hparts
      clear hpl hel hup hat hpre hparts oo go hB4 HM HA HV HG HB3 HN HO H0 HP hc2
      go_wp2
      go_loopw [24] (fun i wr => ∃ k : Nat, k ≤ Lp.length ∧ i = .int .i64 k ∧ ∃ m, wr = w4.drewN m) (fun i _ => Lp.length - (intOf i).toNat)
      case atStart => exact ⟨0, Nat.zero_le _, rfl, 0, rfl⟩
      case round =>
        obtain ⟨k, hk, rfl, m, rfl⟩ := hrel
        by_cases hlt : k < Lp.length
        · obtain ⟨b, o, rfl, q⟩ := H0'.out (by omega)
          have d0 := q k hlt
          have d1 : w4.cell? ⟨g, k, none⟩ = some (.int .u8 (Lp.getD k 0)) := by have := HAT.out k hlt; rw [Nat.zero_add] at this; exact this
          have hlt1 : (k : Int) < (Lp.length : Int) := by omega
          have hlt2 : (k : Int) < (P10 : Int) := by omega
          clear q
          go_wp2
          go_quiet (fail)
          go_wp2
          exact ⟨⟨k + 1, by omega, by go_num, _, rfl⟩, by simp [intOf]; omega⟩
        · go_wp2_with fail
          refine (expect_to g P10 co _ P1 l.peer _ _ rfl HPL.out.e1 (by omega) HSh.out.peer (by omega) (HPT.out.later (below_drewN ⟨_, rfl⟩)).a1).mono ?_
          rintro e w5 ⟨rfl, m5, rfl⟩
          go_wp2_with fail
          refine (expect_to g P10 co _ P2 l.frm _ _ rfl HPL.out.e2 (by omega) HSh.out.frm (by omega) (HPT.out.later (below_drewN ⟨_, rfl⟩)).a2).mono ?_
          rintro e w6 ⟨rfl, m6, rfl⟩
          go_wp2_with fail
          refine (expect_to g P10 co _ P3 l.to _ _ rfl HPL.out.e3 (by omega) HSh.out.to (by omega) (HPT.out.later (below_drewN ⟨_, rfl⟩)).a3).mono ?_
          rintro e w7 ⟨rfl, m7, rfl⟩
          go_wp2_with fail
          refine (expect_to g P10 co _ P4 l.pp _ _ rfl HPL.out.e4 (by omega) HSh.out.pp (by omega) (HPT.out.later (below_drewN ⟨_, rfl⟩)).a4).mono ?_
          rintro e w8 ⟨rfl, m8, rfl⟩
          go_wp2_with fail
          refine (expect_to g P10 co _ P5 l.pf _ _ rfl HPL.out.e5 (by omega) HSh.out.pf (by omega) (HPT.out.later (below_drewN ⟨_, rfl⟩)).a5).mono ?_
          rintro e w9 ⟨rfl, m9, rfl⟩
          go_wp2_with fail
          refine (count_to g P10 co _ P6 l.arcs.length _ _ rfl HPL.out.e6 (by omega) (by omega) (by omega) (HPT.out.later (below_drewN ⟨_, rfl⟩)).a6).mono ?_
          rintro e w10 ⟨rfl, rfl⟩
          go_wp2
          generalize m + m5 + m6 + m7 + m8 + m9 = mm
          go_loopw [25, 27] (fun ps i wr => ∃ (j Q : Nat), j ≤ l.arcs.length ∧ i = .int .i64 j ∧ ps = .int .i64 Q ∧ Hid (P6 + (eas (l.arcs.take j)).length = Q) ∧ ∃ m, wr = w4.drewN m) (fun _ i _ => l.arcs.length - (intOf i).toNat)
          case atStart => exact ⟨0, P6, Nat.zero_le _, rfl, rfl, hide (by simp [eas]), mm, rfl⟩
          case round =>
            obtain ⟨j, Q, hj, rfl, rfl, HQ, m', rfl⟩ := hrel
            by_cases hlt2 : j < l.arcs.length
            · obtain ⟨b, o, rfl, q0, q1⟩ := HP'.out (by omega)
              have d0 := q0 j hlt2
              have d1 := q1 j hlt2
              obtain ⟨p, Hp⟩ : ∃ p, Hid (nth l.arcs j = p) := ⟨_, rfl⟩
              have hsz := HSh.out.arcs j hlt2
              have hat := HPT.out.a7.arc j hlt2
              rw [HQ.out] at hat
              rw [Hp.out] at d0 d1 hsz hat
              have hsucc := congrArg List.length (eas_succ l.arcs j hlt2)
              rw [List.length_append, Hp.out, ea, List.length_append] at hsucc
              have htk := eas_take_le l.arcs (j + 1)
              have hQ := HQ.out
              have h7 := HPL.out.e7
              obtain ⟨Q1, HQ1⟩ : ∃ Q1, Hid (Q + (es p.1).length = Q1) := ⟨_, rfl⟩
              obtain ⟨Q2, HQ2⟩ : ∃ Q2, Hid (Q1 + (es p.2).length = Q2) := ⟨_, rfl⟩
              have hle1 : Q ≤ Q1 ∧ Q1 ≤ Q2 ∧ Q2 ≤ P7 := by have := HQ1.out; have := HQ2.out; omega
              have HQ3 : Hid (P6 + (eas (l.arcs.take (j + 1))).length = Q2) := by have := HQ1.out; have := HQ2.out; show _ = _; omega
              have hat2 := hat.2
              rw [HQ1.out] at hat2
              have HA1 := hide hat.1
              have HA2 := hide hat2
              have hlt3 : (j : Int) < (l.arcs.length : Int) := by omega
              clear q0 q1 hat hat2 hsucc htk hQ h7
              go_wp2_with fail
              refine (expect_to g P10 co _ Q1 p.1 _ _ rfl HQ1.out (by omega) hsz.1 (by omega) (HA1.out.later (below_drewN ⟨_, rfl⟩))).mono ?_
              rintro e w11 ⟨rfl, m11, rfl⟩
              go_wp2_with fail
              refine (expect_to g P10 co _ Q2 p.2 _ _ rfl HQ2.out (by omega) hsz.2 (by omega) (HA2.out.later (below_drewN ⟨_, rfl⟩))).mono ?_
              rintro e w12 ⟨rfl, m12, rfl⟩
              go_wp2
              exact ⟨⟨j + 1, Q2, by omega, by go_num, rfl, HQ3, _, rfl⟩, by simp [intOf]; omega⟩
            · obtain rfl : j = l.arcs.length := by omega
              obtain rfl : Q = P7 := by have := HQ.out; rw [List.take_length] at this; rw [← this]; exact HPL.out.e7
              go_wp2_with fail
              refine (expect_to g P10 co _ P8 l.bf _ _ rfl HPL.out.e8 (by omega) HSh.out.bf (by omega) (HPT.out.later (below_drewN ⟨_, rfl⟩)).a8).mono ?_
              rintro e w11 ⟨rfl, m11, rfl⟩
              go_wp2_with fail
              refine (expect_to g P10 co _ P9 l.bt _ _ rfl HPL.out.e9 (by omega) HSh.out.bt (by omega) (HPT.out.later (below_drewN ⟨_, rfl⟩)).a9).mono ?_
              rintro e w12 ⟨rfl, m12, rfl⟩
              go_wp2_with fail
              refine (expect_to g P10 co _ P10 l.bp _ _ rfl HPL.out.e10 (by omega) HSh.out.bp (by omega) (HPT.out.later (below_drewN ⟨_, rfl⟩)).a10).mono ?_
              rintro e w13 ⟨rfl, m13, rfl⟩
              go_wp2
              go_ret
              exact ⟨rfl, HB4.out.trans ((below_drewN ⟨_, rfl⟩).mono HB4.out.size)⟩
end Go.Proofs.Qxb6604739a
