import Derived.Test.Qxb6604739aFmtLeave
import Derived.Deep.QuietTactic
import Derived.BigQuiet
namespace Go.Proofs.Qxb6604739aFmt
open Go.RowKit

theorem below_drewN {w w' : World} (h : ∃ n, w' = w.drewN n) : Below w.heap.size w w' := by
  obtain ⟨n, rfl⟩ := h
  induction n with
  | zero => exact Below.refl _ _
  | succ n ih => exact ih.drew

set_option maxRecDepth 100000 in
theorem encodeLeave_any (bm ga : Nat) (sv av : Value) (L : List Int) (l : Lv) (w : World) (ho : Own w sv L) (hs : l.Short) (hL : L.length ≤ 8388608) (hm : Lies w bm l av) (ha : ArcsIn w av l.arcs ga)
    (hbv : sv.ownBlock ≠ some bm) (hgv : 0 < l.arcs.length → sv.ownBlock ≠ some ga ∧ ga < w.heap.size) :
    Calls Tryf.prog 14 #[sv, .pointer (some ⟨bm, 0, none⟩)] w fun e w' => ∃ v', e = .returned v' ∧ Own w' v' (L ++ el l) ∧ w.grownBy w' sv.ownBlock := by
  have hbl : bm < w.heap.size := World.block_lt_of_cell? w _ hm.c0
  have hE : Enc w.heap.size (w.alloc (.cells #[sv] 54)) sv L := by
    refine ⟨heap_alloc_new w _, ho.kept (World.grownBy_alloc w _ none) (none_or _), fun e => ?_⟩
    have := ho.lt _ e
    omega
  have hb : Below w.heap.size w (w.alloc (.cells #[sv] 54)) := (Below.refl _ _).alloc (Nat.le_refl _) _
  have HM : Hid (Lies (w.alloc (.cells #[sv] 54)) bm l av) := ⟨cell_later hb hm.c0, cell_later hb hm.c1, cell_later hb hm.c2, cell_later hb hm.c3, cell_later hb hm.c4, cell_later hb hm.c5, cell_later hb hm.c6, cell_later hb hm.c7, cell_later hb hm.c8⟩
  have HA : Hid (ArcsIn (w.alloc (.cells #[sv] 54)) av l.arcs ga) := by
    obtain ⟨ao, ca, rfl, h⟩ := ha
    refine ⟨ao, ca, rfl, fun h0 => ?_⟩
    obtain ⟨q1, q2, q3⟩ := h h0
    exact ⟨q1, fun i hi => cell_later hb (q2 i hi), fun i hi => cell_later hb (q3 i hi)⟩
  have HE := hide hE
  have HO := hide ho
  have HGV := hide hgv
  have HSh := hide hs
  obtain ⟨s1, s2, s3, rfl⟩ := ho.isSlice
  clear hE ho hgv hm ha hb hs
  go_enter Tryf.func14, Tryf.ntmps14
  go_wp2_with fail
  refine (encode_any w.heap.size bm ga _ av L l _ HE.out HSh.out hL HM.out HA.out (by omega) hbv (fun h0 => by have := (HGV.out h0).2; omega) (fun h0 => ⟨(HGV.out h0).1, by have := (HGV.out h0).2; simp; omega⟩)).mono ?_
  rintro e w1 ⟨rfl, v1, E1, S1⟩
  have hc := E1.cell
  obtain ⟨a1, n1, c1, rfl⟩ := E1.own.isSlice
  have HE1 := hide E1
  have HS1 := hide S1
  clear E1 S1
  go_wp2
  go_ret
  have S := HS1.out
  have hsz := S.size
  simp only [World.size_alloc] at hsz
  refine ⟨_, rfl, HE1.out.own, ⟨S.os, S.tape, S.output, by omega, fun k hk hne => ?_⟩⟩
  exact (S.block k (by simp; omega) (by omega) (fun e => hne e.symm)).trans (Below.heap_alloc _ _ _ hk)
end Go.Proofs.Qxb6604739aFmt
