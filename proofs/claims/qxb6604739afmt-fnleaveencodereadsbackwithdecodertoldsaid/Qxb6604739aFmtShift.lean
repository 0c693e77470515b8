import Derived.Test.Qxb6604739aFmtDec
namespace Go.Proofs.Qxb6604739aFmt
open Go.RowKit

set_option maxHeartbeats 800000 in
theorem eq_cells (b1 o1 b2 o2 n c1 c2 : Nat) (L : List Int) (w : World) (hn : n ≤ 16777216) (h1 : ∀ i, i < n → w.cell? ⟨b1, o1 + i, none⟩ = some (.int .u8 (L.getD i 0))) (h2 : ∀ i, i < n → w.cell? ⟨b2, o2 + i, none⟩ = some (.int .u8 (L.getD i 0))) :
    Calls Tryf.prog 23 #[.slice (some ⟨b1, o1, none⟩) n c1, .slice (some ⟨b2, o2, none⟩) n c2] w fun e w' => e = .returned (.bool true) ∧ ∃ m, w' = w.drewN m := by
  go_enter Tryf.func23, Tryf.ntmps23
  go_wp2
  go_loopw [5] (fun i wr => ∃ k : Nat, k ≤ n ∧ i = .int .i64 k ∧ ∃ m, wr = w.drewN m) (fun i _ => n - (intOf i).toNat)
  case atStart => exact ⟨0, Nat.zero_le _, rfl, 0, rfl⟩
  case round =>
    obtain ⟨k, hk, rfl, m, rfl⟩ := hrel
    by_cases hlt : k < n
    · have g1 := h1 k hlt
      have g2 := h2 k hlt
      have hlt' : (k : Int) < (n : Int) := by omega
      clear h1 h2
      go_wp2
      go_quiet (fail)
      go_wp2
      exact ⟨⟨k + 1, by omega, by go_num, _, rfl⟩, by simp [intOf]; omega⟩
    · go_wp2
      go_ret
      exact ⟨rfl, m, rfl⟩

set_option maxHeartbeats 800000 in
theorem eq_none (a1 a2 : Option Addr) (c1 c2 : Nat) (w : World) :
    Calls Tryf.prog 23 #[.slice a1 0 c1, .slice a2 0 c2] w fun e w' => e = .returned (.bool true) ∧ ∃ m, w' = w.drewN m := by
  go_enter Tryf.func23, Tryf.ntmps23
  go_wp2
  refine wp_loop_rounds 1 ?_
  rw [rounds_succ]
  go_wp2
  go_ret
  exact ⟨rfl, 0, rfl⟩

/-- zzEq at two slices that hold the same bytes: true. -/
theorem eq_any (a1 a2 : Option Addr) (n c1 c2 : Nat) (L : List Int) (w : World) (hn : n ≤ 16777216)
    (h : 0 < n → ∃ b1 o1 b2 o2, a1 = some ⟨b1, o1, none⟩ ∧ a2 = some ⟨b2, o2, none⟩ ∧ (∀ i, i < n → w.cell? ⟨b1, o1 + i, none⟩ = some (.int .u8 (L.getD i 0))) ∧ ∀ i, i < n → w.cell? ⟨b2, o2 + i, none⟩ = some (.int .u8 (L.getD i 0))) :
    Calls Tryf.prog 23 #[.slice a1 n c1, .slice a2 n c2] w fun e w' => e = .returned (.bool true) ∧ ∃ m, w' = w.drewN m := by
  by_cases h0 : 0 < n
  · obtain ⟨b1, o1, b2, o2, rfl, rfl, h1, h2⟩ := h h0
    exact eq_cells b1 o1 b2 o2 n c1 c2 L w hn h1 h2
  · obtain rfl : n = 0 := by omega
    exact eq_none a1 a2 c1 c2 w

theorem eq_two (a1 a2 : Option Addr) (n1 n2 c1 c2 : Nat) (L : List Int) (w : World) (h12 : n1 = n2) (hn : n2 ≤ 16777216)
    (h : 0 < n2 → ∃ b1 o1 b2 o2, a1 = some ⟨b1, o1, none⟩ ∧ a2 = some ⟨b2, o2, none⟩ ∧ (∀ i, i < n2 → w.cell? ⟨b1, o1 + i, none⟩ = some (.int .u8 (L.getD i 0))) ∧ ∀ i, i < n2 → w.cell? ⟨b2, o2 + i, none⟩ = some (.int .u8 (L.getD i 0))) :
    Calls Tryf.prog 23 #[.slice a1 n1 c1, .slice a2 n2 c2] w fun e w' => e = .returned (.bool true) ∧ ∃ m, w' = w.drewN m := by
  subst h12
  exact eq_any a1 a2 n1 c1 c2 L w hn h

/-- it has handed back a bool -/
def IsBool (e : Ending) : Prop := ∃ r : Bool, e = .returned (.bool r)
theorem isBool (r : Bool) : IsBool (.returned (.bool r)) := ⟨r, rfl⟩

/-- from w to w' only the blocks in S, and new ones, may have turned -/
structure Gr (S : List Nat) (w w' : World) : Prop where
  os : w'.os = w.os
  tape : w'.tape = w.tape
  output : w'.output = w.output
  size : w.heap.size ≤ w'.heap.size
  block : ∀ k, k < w.heap.size → k ∉ S → w'.heap[k]? = w.heap[k]?

theorem Gr.refl (S : List Nat) (w : World) : Gr S w w := ⟨rfl, rfl, rfl, Nat.le_refl _, fun _ _ _ => rfl⟩

theorem Gr.trans {S : List Nat} {a b c : World} (h : Gr S a b) (k : Gr S b c) : Gr S a c :=
  ⟨k.os.trans h.os, k.tape.trans h.tape, k.output.trans h.output, Nat.le_trans h.size k.size, fun i hi hn => (k.block i (Nat.lt_of_lt_of_le hi h.size) hn).trans (h.block i hi hn)⟩

theorem Gr.of {S : List Nat} {w w' : World} {r : Nat} (h : w.grownBy w' (some r)) (hr : r ∈ S) : Gr S w w' :=
  ⟨h.os, h.tape, h.output, h.size, fun k hk hn => h.block k hk (fun e => hn (by cases e; exact hr))⟩

theorem Gr.below {S : List Nat} {w w' : World} (h : Gr S w w') {B : Nat} (hB : B ≤ w.heap.size) (hS : ∀ r ∈ S, B ≤ r) : Below B w w' :=
  ⟨h.os, h.tape, h.output, h.size, fun k hk => h.block k (by omega) (fun hm => by have := hS k hm; omega)⟩

theorem set_grown (w : World) (b i : Nat) (v : Value) : w.grownBy (w.setCell ⟨b, i, none⟩ v) (some b) :=
  ⟨rfl, rfl, rfl, by simp [World.setCell], fun k _ hk => Below.heap_setCell _ _ _ _ (fun e => hk (by rw [e]))⟩

theorem Dec.kept {bd g : Nat} {w w' : World} {a : Addr} {c : Nat} {M : List Int} (h : Dec bd g w a c M) {r : Nat} (hg : w.grownBy w' (some r)) (h1 : r ≠ bd) (h2 : r ≠ g) : Dec bd g w' a c M := by
  refine ⟨(hg.block bd h.lt (fun e => h1 (Option.some.inj e).symm)).trans h.box, h.le, h.max, h.ne, fun h0 => ?_⟩
  obtain ⟨p, rfl, hat⟩ := h.cells h0
  exact ⟨p, rfl, fun j hj => hg.cell (hat j hj) (fun e => h2 (Option.some.inj e).symm)⟩

/-- a Shift in block bm -/
def Sh (w : World) (bm : Nat) (x y z : ByteArray) : Prop := w.heap[bm]? = some (.cells #[.string x, .string y, .string z] 48 (0, 0))

theorem Sh.kept {w w' : World} {bm r : Nat} {x y z : ByteArray} (h : Sh w bm x y z) (hg : w.grownBy w' (some r)) (hr : r ≠ bm) : Sh w' bm x y z :=
  (hg.block bm (lt_of_block h) (fun e => hr (Option.some.inj e).symm)).trans h

theorem Sh.cells {w : World} {bm : Nat} {x y z : ByteArray} (h : Sh w bm x y z) : w.cell? ⟨bm, 0, none⟩ = some (.string x) ∧ w.cell? ⟨bm, 1, none⟩ = some (.string y) ∧ w.cell? ⟨bm, 2, none⟩ = some (.string z) := by
  unfold Sh at h
  refine ⟨?_, ?_, ?_⟩ <;> simp [World.cell?, h]

theorem Sh.free {w : World} {bm : Nat} {x y z : ByteArray} (h : Sh w bm x y z) (i : Nat) : w.frozen? ⟨bm, i, none⟩ = false := by
  unfold Sh at h
  simp [World.frozen?, h]

theorem Sh.set0 {w : World} {bm : Nat} {x y z : ByteArray} (h : Sh w bm x y z) (s : ByteArray) : Sh (w.setCell ⟨bm, 0, none⟩ (.string s)) bm s y z := (heap_setCell_same w bm 0 _ 48 (.string s) h).trans rfl
theorem Sh.set1 {w : World} {bm : Nat} {x y z : ByteArray} (h : Sh w bm x y z) (s : ByteArray) : Sh (w.setCell ⟨bm, 1, none⟩ (.string s)) bm x s z := (heap_setCell_same w bm 1 _ 48 (.string s) h).trans rfl
theorem Sh.set2 {w : World} {bm : Nat} {x y z : ByteArray} (h : Sh w bm x y z) (s : ByteArray) : Sh (w.setCell ⟨bm, 2, none⟩ (.string s)) bm x y s := (heap_setCell_same w bm 2 _ 48 (.string s) h).trans rfl

set_option maxRecDepth 100000 in
set_option maxHeartbeats 1600000 in
theorem shiftDecode_any (bd g bm c : Nat) (a : Addr) (x y z p f t : ByteArray) (T : List Int) (w : World) (h : Dec bd g w a c (es p ++ (es f ++ (es t ++ T)))) (hm : Sh w bm x y z) (h1 : bd ≠ bm) (h2 : bm ≠ g)
    (hp : p.size ≤ 1048576) (hf : f.size ≤ 1048576) (ht : t.size ≤ 1048576) (hM : (es p ++ (es f ++ (es t ++ T))).length ≤ 268435456) :
    Calls Tryf.prog 32 #[.pointer (some ⟨bm, 0, none⟩), .pointer (some ⟨bd, 0, none⟩)] w fun e w' => e = .returned (.tuple #[]) ∧ ∃ a' c', Dec bd g w' a' c' T ∧ Sh w' bm p f t ∧ Gr [bm, bd] w w' := by
  have H := hide h
  have HSh := hide hm
  have HM := hide hM
  clear h hm hM
  go_enter Tryf.func32, Tryf.ntmps32
  go_wp2_with fail
  refine (decString_any bd g c p a _ w H.out hp HM.out).mono ?_
  rintro e w1 ⟨rfl, a1, c1, D1, g1⟩
  have M1 := HSh.out.kept g1 h1
  have d1 := M1.cells.1
  have f1 := M1.free 0
  have HD1 := hide D1
  have HM1 := hide M1
  have HG1 : Hid (Gr [bm, bd] w w1) := Gr.of g1 (by simp)
  clear D1 M1 g1
  go_wp2_with fail
  have hd2 : Hid (Dec bd g (w1.setCell ⟨bm, 0, none⟩ (.string p)) a1 c1 (es f ++ (es t ++ T))) := HD1.out.kept (set_grown _ _ _ _) h1.symm h2
  have HM2 := hide (HM1.out.set0 p)
  have HG2 : Hid (Gr [bm, bd] w (w1.setCell ⟨bm, 0, none⟩ (.string p))) := HG1.out.trans (Gr.of (set_grown _ _ _ _) (by simp))
  refine (decString_any bd g c1 f a1 _ _ hd2.out hf (by have := HM.out; rw [List.length_append] at this; omega)).mono ?_
  rintro e w2 ⟨rfl, a2, c2, D2, g2⟩
  have M2 := HM2.out.kept g2 h1
  have d2 := M2.cells.2.1
  have f2 := M2.free 1
  have HD2 := hide D2
  have HM2' := hide M2
  have HG2' : Hid (Gr [bm, bd] w w2) := HG2.out.trans (Gr.of g2 (by simp))
  clear D2 M2 g2 d1 f1 HD1 HM1 HG1 HG2 HM2 hd2
  go_wp2_with fail
  have hd3 : Hid (Dec bd g (w2.setCell ⟨bm, 1, none⟩ (.string f)) a2 c2 (es t ++ T)) := HD2.out.kept (set_grown _ _ _ _) h1.symm h2
  have HM3 := hide (HM2'.out.set1 f)
  have HG3 : Hid (Gr [bm, bd] w (w2.setCell ⟨bm, 1, none⟩ (.string f))) := HG2'.out.trans (Gr.of (set_grown _ _ _ _) (by simp))
  refine (decString_any bd g c2 t a2 _ _ hd3.out ht (by have := HM.out; simp only [List.length_append] at this ⊢; omega)).mono ?_
  rintro e w3 ⟨rfl, a3, c3, D3, g3⟩
  have M3 := HM3.out.kept g3 h1
  have d3 := M3.cells.2.2
  have f3 := M3.free 2
  have HD3 := hide D3
  have HM3' := hide M3
  have HG3' : Hid (Gr [bm, bd] w w3) := HG3.out.trans (Gr.of g3 (by simp))
  clear D3 M3 g3 d2 f2 HD2 HM2' HG2' HG3 HM3 hd3
  go_wp2
  go_end0
  exact ⟨rfl, a3, c3, HD3.out.kept (set_grown _ _ _ _) h1.symm h2, HM3'.out.set2 t, HG3'.out.trans (Gr.of (set_grown _ _ _ _) (by simp))⟩

end Go.Proofs.Qxb6604739aFmt
