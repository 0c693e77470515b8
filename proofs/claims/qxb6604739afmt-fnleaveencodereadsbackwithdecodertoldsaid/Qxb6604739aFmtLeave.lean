import Derived.Test.Qxb6604739aFmtArcs
namespace Go.Proofs.Qxb6604739aFmt
open Go.RowKit

/-- a Leave: its strings and its arcs -/
structure Lv where
  peer : ByteArray
  frm : ByteArray
  to : ByteArray
  pp : ByteArray
  pf : ByteArray
  arcs : List (ByteArray × ByteArray)
  bf : ByteArray
  bt : ByteArray
  bp : ByteArray

/-- each string is short -/
structure Lv.Short (l : Lv) : Prop where
  peer : l.peer.size ≤ 1048576
  frm : l.frm.size ≤ 1048576
  to : l.to.size ≤ 1048576
  pp : l.pp.size ≤ 1048576
  pf : l.pf.size ≤ 1048576
  bf : l.bf.size ≤ 1048576
  bt : l.bt.size ≤ 1048576
  bp : l.bp.size ≤ 1048576
  n : l.arcs.length ≤ 65536
  arcs : ∀ i, i < l.arcs.length → (nth l.arcs i).1.size ≤ 1048576 ∧ (nth l.arcs i).2.size ≤ 1048576
  all : (eas l.arcs).length ≤ 4194304

/-- the Leave lies in block bm, its arcs in the slice 'av' -/
structure Lies (w : World) (bm : Nat) (l : Lv) (av : Value) : Prop where
  c0 : w.cell? ⟨bm, 0, none⟩ = some (.string l.peer)
  c1 : w.cell? ⟨bm, 1, none⟩ = some (.string l.frm)
  c2 : w.cell? ⟨bm, 2, none⟩ = some (.string l.to)
  c3 : w.cell? ⟨bm, 3, none⟩ = some (.string l.pp)
  c4 : w.cell? ⟨bm, 4, none⟩ = some (.string l.pf)
  c5 : w.cell? ⟨bm, 5, none⟩ = some av
  c6 : w.cell? ⟨bm, 6, none⟩ = some (.string l.bf)
  c7 : w.cell? ⟨bm, 7, none⟩ = some (.string l.bt)
  c8 : w.cell? ⟨bm, 8, none⟩ = some (.string l.bp)

theorem Lies.step {w w' : World} {bm be : Nat} {l : Lv} {av v v' : Value} (h : Lies w bm l av) (s : Step be w v w' v') (h1 : bm ≠ be) (h2 : v.ownBlock ≠ some bm) : Lies w' bm l av :=
  ⟨s.cell h.c0 h1 h2, s.cell h.c1 h1 h2, s.cell h.c2 h1 h2, s.cell h.c3 h1 h2, s.cell h.c4 h1 h2, s.cell h.c5 h1 h2, s.cell h.c6 h1 h2, s.cell h.c7 h1 h2, s.cell h.c8 h1 h2⟩

/-- the arcs' slice: empty, or two cells an arc in block ga -/
def ArcsIn (w : World) (av : Value) (A : List (ByteArray × ByteArray)) (ga : Nat) : Prop :=
  ∃ ao ca, av = .slice ao A.length ca ∧ (0 < A.length → ao = some ⟨ga, 0, none⟩ ∧ (∀ i, i < A.length → w.cell? ⟨ga, i * 2, none⟩ = some (.string (nth A i).1)) ∧ ∀ i, i < A.length → w.cell? ⟨ga, i * 2 + 1, none⟩ = some (.string (nth A i).2))

/-- the Leave on the wire -/
def el (l : Lv) : List Int := es l.peer ++ (es l.frm ++ (es l.to ++ (es l.pp ++ (es l.pf ++ (uv l.arcs.length ++ (eas l.arcs ++ (es l.bf ++ (es l.bt ++ es l.bp))))))))

theorem es_le (s : ByteArray) (h : s.size ≤ 1048576) : (es s).length ≤ 1048579 := by
  have := uv_length (x := s.size) (by omega)
  rw [es, List.length_append, bs_length]; omega

theorem arcs_any (be : Nat) (v : Value) (L : List Int) (A : List (ByteArray × ByteArray)) (av : Value) (ga : Nat) (w : World) (h : Enc be w v L) (hn : A.length ≤ 65536) (hL : L.length + (eas A).length ≤ 33554432)
    (hsz : ∀ i, i < A.length → (nth A i).1.size ≤ 1048576 ∧ (nth A i).2.size ≤ 1048576)
    (hga : 0 < A.length → ga ≠ be) (hgv : 0 < A.length → v.ownBlock ≠ some ga) (ha : ArcsIn w av A ga) :
    Calls Tryf.prog 34 #[.pointer (some ⟨be, 0, none⟩), av] w fun e w' => e = .returned (.tuple #[]) ∧ ∃ v', Enc be w' v' (L ++ (uv A.length ++ eas A)) ∧ Step be w v w' v' := by
  obtain ⟨ao, ca, rfl, ha⟩ := ha
  by_cases h0 : 0 < A.length
  · obtain ⟨rfl, h1, h2⟩ := ha h0
    exact arcs_some be v L A ga ca w h hn hL hsz (hga h0) (hgv h0) h1 h2
  · obtain rfl : A = [] := List.eq_nil_of_length_eq_zero (by omega)
    exact arcs_none be v L ao ca w h (by omega)

theorem ArcsIn.step {w w' : World} {be ga : Nat} {A : List (ByteArray × ByteArray)} {av v v' : Value} (h : ArcsIn w av A ga) (s : Step be w v w' v') (h1 : 0 < A.length → ga ≠ be) (h2 : 0 < A.length → v.ownBlock ≠ some ga) : ArcsIn w' av A ga := by
  obtain ⟨ao, ca, rfl, h⟩ := h
  refine ⟨ao, ca, rfl, fun h0 => ?_⟩
  obtain ⟨q1, q2, q3⟩ := h h0
  exact ⟨q1, fun i hi => s.cell (q2 i hi) (h1 h0) (h2 h0), fun i hi => s.cell (q3 i hi) (h1 h0) (h2 h0)⟩

/-- a block that is not v's row, and was there, is not v''s row -/
theorem Step.notown {be : Nat} {w w' : World} {v v' : Value} (s : Step be w v w' v') {b : Nat} (h : v.ownBlock ≠ some b) (hb : b < w.heap.size) : v'.ownBlock ≠ some b :=
  fun e => (s.own b e).elim h (by omega)

set_option maxRecDepth 100000 in
set_option maxHeartbeats 3200000 in
theorem encode_any (be bm ga : Nat) (v av : Value) (L : List Int) (l : Lv) (w : World) (h : Enc be w v L) (hs : l.Short) (hL : L.length ≤ 8388608) (hm : Lies w bm l av) (ha : ArcsIn w av l.arcs ga)
    (hbm : bm ≠ be) (hbv : v.ownBlock ≠ some bm) (hga : 0 < l.arcs.length → ga ≠ be) (hgv : 0 < l.arcs.length → v.ownBlock ≠ some ga ∧ ga < w.heap.size) :
    Calls Tryf.prog 28 #[.pointer (some ⟨bm, 0, none⟩), .pointer (some ⟨be, 0, none⟩)] w fun e w' => e = .returned (.tuple #[]) ∧ ∃ v', Enc be w' v' (L ++ el l) ∧ Step be w v w' v' := by
  have H := hide h
  have HM := hide hm
  have HA := hide ha
  have hlt := h.lt
  have HG := hide hga
  have HGV := hide hgv
  have hbl : bm < w.heap.size := World.block_lt_of_cell? w _ hm.c0
  have q0 := hm.c0
  have K0 := es_le l.peer hs.peer
  have K1 := es_le l.frm hs.frm
  have K2 := es_le l.to hs.to
  have K3 := es_le l.pp hs.pp
  have K4 := es_le l.pf hs.pf
  have K5 := uv_length (x := l.arcs.length) (by have := hs.n; omega)
  have K6 := hs.all
  have K7 := es_le l.bf hs.bf
  have K8 := es_le l.bt hs.bt
  have HSh := hide hs
  clear h hm ha hga hgv hs
  go_enter Tryf.func28, Tryf.ntmps28
  go_wp2_with fail
  refine (string_any be v L l.peer w H.out (by omega) HSh.out.peer).mono ?_
  rintro e w1 ⟨rfl, v1, E1, S1⟩
  have M1 := HM.out.step S1 hbm hbv
  have q1 := M1.c1
  have HE1 := hide E1
  have HS1 := hide S1
  clear E1 S1 M1 q0
  go_wp2_with fail
  refine (string_any be v1 _ l.frm w1 HE1.out (by rw [List.length_append]; omega) HSh.out.frm).mono ?_
  rintro e w2 ⟨rfl, v2, E2, S2'⟩
  have S2 := HS1.out.trans S2'
  have M2 := HM.out.step S2 hbm hbv
  have q2 := M2.c2
  have HE2 := hide E2
  have HS2 := hide S2
  clear E2 S2 S2' M2 q1 HS1 HE1
  go_wp2_with fail
  refine (string_any be v2 _ l.to w2 HE2.out (by rw [List.length_append, List.length_append]; omega) HSh.out.to).mono ?_
  rintro e w3 ⟨rfl, v3, E3, S3'⟩
  have S3 := HS2.out.trans S3'
  have M3 := HM.out.step S3 hbm hbv
  have q3 := M3.c3
  have q4 := M3.c4
  have HE3 := hide E3
  have HS3 := hide S3
  clear E3 S3 S3' M3 q2 HS2 HE2
  go_wp2_with fail
  refine (entry_any be v3 _ l.pp l.pf w3 HE3.out (by rw [List.length_append, List.length_append, List.length_append]; omega) HSh.out.pp HSh.out.pf).mono ?_
  rintro e w4 ⟨rfl, v4, E4, S4'⟩
  have S4 := HS3.out.trans S4'
  have M4 := HM.out.step S4 hbm hbv
  have q5 := M4.c5
  have HE4 := hide E4
  have HS4 := hide S4
  clear E4 S4 S4' M4 q3 q4 HS3 HE3
  have A4 : Hid (ArcsIn w4 av l.arcs ga) := HA.out.step HS4.out HG.out (fun h0 => (HGV.out h0).1)
  obtain ⟨ao, na, ca, rfl⟩ : ∃ ao na ca, av = .slice ao na ca := by obtain ⟨ao, ca, h, _⟩ := A4.out; exact ⟨ao, _, ca, h⟩
  go_wp2_with fail
  refine (arcs_any be v4 _ l.arcs _ ga w4 HE4.out HSh.out.n (by simp only [List.length_append]; omega) HSh.out.arcs HG.out (fun h0 => HS4.out.notown (HGV.out h0).1 (HGV.out h0).2) A4.out).mono ?_
  rintro e w5 ⟨rfl, v5, E5, S5'⟩
  have S5 := HS4.out.trans S5'
  have M5 := HM.out.step S5 hbm hbv
  have q6 := M5.c6
  have q7 := M5.c7
  have HE5 := hide E5
  have HS5 := hide S5
  clear E5 S5 S5' M5 q5 HS4 HE4 A4
  go_wp2_with fail
  refine (arc_any be v5 _ l.bf l.bt w5 HE5.out (by simp only [List.length_append]; omega) HSh.out.bf HSh.out.bt).mono ?_
  rintro e w6 ⟨rfl, v6, E6, S6'⟩
  have S6 := HS5.out.trans S6'
  have M6 := HM.out.step S6 hbm hbv
  have q8 := M6.c8
  have HE6 := hide E6
  have HS6 := hide S6
  clear E6 S6 S6' M6 q6 q7 HS5 HE5
  go_wp2_with fail
  refine (string_any be v6 _ l.bp w6 HE6.out (by simp only [List.length_append]; omega) HSh.out.bp).mono ?_
  rintro e w7 ⟨rfl, v7, E7, S7'⟩
  have HE7 := hide E7
  have HS7 := hide (HS6.out.trans S7')
  clear E7 S7' q8
  go_wp2
  go_end0
  refine ⟨rfl, v7, ?_, HS7.out⟩
  have h1 := HE7.out
  simp only [List.append_assoc] at h1
  exact h1
end Go.Proofs.Qxb6604739aFmt
