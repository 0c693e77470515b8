import Derived.Test.Qxb6604739aFmtMake
import Derived.BigRegion
namespace Go.Proofs.Qxb6604739aFmt
open Go.RowKit

theorem Tryf.info73 : (Tryf.prog.info? 73).map (fun i => (i.zero, i.size, i.bytes)) = some (some (.agg #[.string { data := #[] }, .string { data := #[] }]), 2, 32) := by kernel_rfl

/-- what the arcs that came in look like -/
def ProvIn (w : World) (ap : Option Addr) (cp : Nat) (A : List (ByteArray × ByteArray)) : Prop :=
  (ap = none → A.length = 0 ∧ cp = 0) ∧ (0 < A.length → ∃ b o, ap = some ⟨b, o, none⟩ ∧ (∀ i, i < A.length → w.cell? ⟨b, o + i * 2, none⟩ = some (.string (nth A i).1)) ∧ ∀ i, i < A.length → w.cell? ⟨b, o + i * 2 + 1, none⟩ = some (.string (nth A i).2))

/-- what zzLeave hands back -/
def Made (w w' : World) (l : Lv) (e : Ending) : Prop :=
  ∃ bm ga av, e = .returned (.pointer (some ⟨bm, 0, none⟩)) ∧ Lies w' bm l av ∧ ArcsIn w' av l.arcs ga ∧ Below w.heap.size w w' ∧ w.heap.size ≤ bm ∧ (0 < l.arcs.length → w.heap.size ≤ ga ∧ ga < w'.heap.size)

theorem lies_new (w : World) (l : Lv) (av : Value) : Lies (w.alloc (.cells #[.string l.peer, .string l.frm, .string l.to, .string l.pp, .string l.pf, av, .string l.bf, .string l.bt, .string l.bp] 77)) w.heap.size l av := by
  constructor <;> simp

set_option maxRecDepth 100000 in
set_option maxHeartbeats 1600000 in
theorem leave_nil (l : Lv) (w : World) (hn : l.arcs = []) :
    Calls Tryf.prog 13 #[.string l.peer, .string l.frm, .string l.to, .string l.pp, .string l.pf, .slice none 0 0, .string l.bf, .string l.bt, .string l.bp] w fun e w' => Made w w' l e := by
  have hnil := fun w : World => run_neq_slice_nil_any (P := Tryf.prog) w 31 42 none 0 0 0 0 Tryf.underlying31
  have HN := hide hn
  clear hn
  go_enter Tryf.func13, Tryf.ntmps13
  go_wp2
  go_ret
  refine ⟨w.heap.size, 0, .slice none 0 0, rfl, lies_new w l _, ⟨none, 0, by rw [HN.out]; rfl, fun h => by rw [HN.out] at h; simp at h⟩, (Below.refl _ _).alloc (Nat.le_refl _) _, Nat.le_refl _, fun h => by rw [HN.out] at h; simp at h⟩

/-- the row of arcs, the first k laid -/
def Row (w : World) (g n k : Nat) (A : List (ByteArray × ByteArray)) : Prop :=
  ∃ cur : Array Value, w.heap[g]? = some (.cells cur 73 (0, 0)) ∧ cur.size = n * 2 ∧ ∀ i, i < k → cur[i * 2]? = some (.string (nth A i).1) ∧ cur[i * 2 + 1]? = some (.string (nth A i).2)

theorem Row.cell {w : World} {g n k : Nat} {A : List (ByteArray × ByteArray)} (h : Row w g n k A) (j : Nat) (hj : j < n * 2) : (∃ x, w.cell? ⟨g, j, none⟩ = some x) ∧ w.frozen? ⟨g, j, none⟩ = false := by
  obtain ⟨cur, h1, h2, _⟩ := h
  refine ⟨⟨cur[j], ?_⟩, ?_⟩
  · simp [World.cell?, h1, h2, hj]
  · simp [World.frozen?, h1]

theorem Row.store {w : World} {g n k : Nat} {A : List (ByteArray × ByteArray)} (h : Row w g n k A) (hk : k < n) :
    Row ((w.setCell ⟨g, k * 2, none⟩ (.string (nth A k).1)).setCell ⟨g, k * 2 + 1, none⟩ (.string (nth A k).2)) g n (k + 1) A := by
  obtain ⟨cur, h1, h2, h3⟩ := h
  have e1 := heap_setCell_same w g (k * 2) cur 73 (.string (nth A k).1) h1
  have e2 := heap_setCell_same _ g (k * 2 + 1) _ 73 (.string (nth A k).2) e1
  refine ⟨_, e2, by simp [h2], fun i hi => ?_⟩
  by_cases he : i = k
  · subst he
    constructor
    · rw [Array.getElem?_setIfInBounds_ne (by omega), Array.getElem?_setIfInBounds_self_of_lt (by omega)]
    · rw [Array.getElem?_setIfInBounds_self_of_lt (by simp; omega)]
  · have := h3 i (by omega)
    constructor
    · rw [Array.getElem?_setIfInBounds_ne (by omega), Array.getElem?_setIfInBounds_ne (by omega)]; exact this.1
    · rw [Array.getElem?_setIfInBounds_ne (by omega), Array.getElem?_setIfInBounds_ne (by omega)]; exact this.2

set_option maxRecDepth 100000 in
set_option maxHeartbeats 1600000 in
theorem leave_some (l : Lv) (b o cp : Nat) (w : World) (hn : l.arcs.length ≤ 65536)
    (h0 : ∀ i, i < l.arcs.length → w.cell? ⟨b, o + i * 2, none⟩ = some (.string (nth l.arcs i).1)) (h1 : ∀ i, i < l.arcs.length → w.cell? ⟨b, o + i * 2 + 1, none⟩ = some (.string (nth l.arcs i).2)) :
    Calls Tryf.prog 13 #[.string l.peer, .string l.frm, .string l.to, .string l.pp, .string l.pf, .slice (some ⟨b, o, none⟩) l.arcs.length cp, .string l.bf, .string l.bt, .string l.bp] w fun e w' => Made w w' l e := by
  have hnil := fun w : World => run_neq_slice_nil_any (P := Tryf.prog) w 31 42 (some ⟨b, o, none⟩) l.arcs.length cp 0 0 Tryf.underlying31
  obtain ⟨i0, hi, hz0, hz1, hz2⟩ := info_parts Tryf.info73
  have H0 := hide h0
  have H1 := hide h1
  clear h0 h1
  go_enter Tryf.func13, Tryf.ntmps13
  go_wp2_with (at_make; refine wpList_make_full _ rfl (.tmp 24) (.tmp 24) 72 rfl w.heap.size 73 i0 _ 2 Tryf.underlying72 hi hz0 hz1 _ _ _ _ l.arcs.length rfl rfl rfl rfl ?c1 ?c2 ?c3 ?_)
  case c1 => rw [hz2]; omega
  case c2 => unfold maxLen; omega
  case c3 => exact Nat.le_refl _
  intro w1 hown hgrow
  have hrow : Row w1 w.heap.size l.arcs.length 0 l.arcs := by
    rcases hown.2 with ⟨h, _⟩ | ⟨g, cap, cur, q1, _, q2, _, _, q3, _⟩
    · cases h
    · simp only [Value.slice.injEq, Option.some.injEq, Addr.mk.injEq] at q1
      obtain ⟨⟨rfl, _⟩, _, rfl⟩ := q1
      exact ⟨cur, q2, q3, fun i hi => by omega⟩
  have hb1 : Below w.heap.size w w1 := grownBy_below hgrow (Nat.le_refl _) (by simp)
  have HR := hide hrow
  have HB := hide hb1
  clear hown hgrow hrow hb1 hnil
  go_wp2
  go_loopw [20] (fun i wr => ∃ k : Nat, k ≤ l.arcs.length ∧ i = .int .i64 k ∧ Hid (Row wr w.heap.size l.arcs.length k l.arcs) ∧ Hid (Below w.heap.size w wr)) (fun i _ => l.arcs.length - (intOf i).toNat)
  case atStart => exact ⟨0, Nat.zero_le _, rfl, HR, HB⟩
  case round =>
    obtain ⟨k, hk, rfl, HRk, HBk⟩ := hrel
    by_cases hlt : k < l.arcs.length
    · have c0 : wr.cell? ⟨b, o + k * 2, none⟩ = some (.string (nth l.arcs k).1) := cell_later HBk.out (H0.out k hlt)
      have c1 : wr.cell? ⟨b, o + k * 2 + 1, none⟩ = some (.string (nth l.arcs k).2) := cell_later HBk.out (H1.out k hlt)
      obtain ⟨⟨x0, d0⟩, f0⟩ := HRk.out.cell (k * 2) (by omega)
      obtain ⟨⟨x1, d1⟩, f1⟩ := HRk.out.cell (k * 2 + 1) (by omega)
      obtain ⟨p, Hp⟩ : ∃ p, Hid (nth l.arcs k = p) := ⟨_, rfl⟩
      rw [Hp.out] at c0 c1
      have hlt' : (k : Int) < (l.arcs.length : Int) := by omega
      go_wp2
      go_region
      go_wp2
      refine ⟨⟨k + 1, by omega, by go_num, ?_, ?_⟩, by simp [intOf]; omega⟩
      · have h := HRk.out.store hlt
        rw [Hp.out] at h
        exact h
      · exact ((HBk.out.setCell (Nat.le_refl _) _).setCell (Nat.le_refl _) _).drew
    · obtain rfl : k = l.arcs.length := by omega
      go_wp2
      go_ret
      have hs := HBk.out.size
      have hg : w.heap.size < wr.heap.size := by obtain ⟨cur, h, _⟩ := HRk.out; exact lt_of_block h
      have hb2 : Below wr.heap.size wr (wr.alloc (.cells #[.string l.peer, .string l.frm, .string l.to, .string l.pp, .string l.pf, .slice (some ⟨w.heap.size, 0, none⟩) l.arcs.length l.arcs.length, .string l.bf, .string l.bt, .string l.bp] 77)) := (Below.refl _ _).alloc (Nat.le_refl _) _
      refine ⟨wr.heap.size, w.heap.size, _, rfl, lies_new wr l _, ⟨some ⟨w.heap.size, 0, none⟩, _, rfl, fun _ => ⟨rfl, fun i hi => ?_, fun i hi => ?_⟩⟩, HBk.out.alloc hs _, hs, fun _ => ⟨Nat.le_refl _, by simp; omega⟩⟩
      · obtain ⟨cur, q1, _, q3⟩ := HRk.out
        refine cell_later hb2 ?_
        simp [World.cell?, q1, (q3 i hi).1]
      · obtain ⟨cur, q1, _, q3⟩ := HRk.out
        refine cell_later hb2 ?_
        simp [World.cell?, q1, (q3 i hi).2]

set_option maxRecDepth 100000 in
set_option maxHeartbeats 1600000 in
theorem leave_empty (l : Lv) (a : Addr) (cp : Nat) (w : World) (hn : l.arcs = []) :
    Calls Tryf.prog 13 #[.string l.peer, .string l.frm, .string l.to, .string l.pp, .string l.pf, .slice (some a) 0 cp, .string l.bf, .string l.bt, .string l.bp] w fun e w' => Made w w' l e := by
  have hnil := fun w : World => run_neq_slice_nil_any (P := Tryf.prog) w 31 42 (some a) 0 cp 0 0 Tryf.underlying31
  obtain ⟨i0, hi, hz0, hz1, hz2⟩ := info_parts Tryf.info73
  have HN := hide hn
  clear hn
  go_enter Tryf.func13, Tryf.ntmps13
  go_wp2_with (at_make; refine wpList_make_full _ rfl (.tmp 24) (.tmp 24) 72 rfl w.heap.size 73 i0 _ 2 Tryf.underlying72 hi hz0 hz1 _ _ _ _ 0 rfl rfl rfl rfl ?c1 ?c2 ?c3 ?_)
  case c1 => omega
  case c2 => unfold maxLen; omega
  case c3 => exact Nat.le_refl _
  intro w1 hown hgrow
  have hb1 : Below w.heap.size w w1 := grownBy_below hgrow (Nat.le_refl _) (by simp)
  have HB := hide hb1
  clear hown hgrow hb1 hnil
  go_wp2
  refine wp_loop_rounds 1 ?_
  rw [rounds_succ]
  go_wp2
  go_ret
  have hs := HB.out.size
  exact ⟨w1.heap.size, 0, _, rfl, lies_new w1 l _, ⟨_, _, by rw [HN.out]; rfl, fun h => by rw [HN.out] at h; simp at h⟩, HB.out.alloc hs _, hs, fun h => by rw [HN.out] at h; simp at h⟩

theorem leave_any (l : Lv) (ap : Option Addr) (cp : Nat) (w : World) (hn : l.arcs.length ≤ 65536) (hp : ProvIn w ap cp l.arcs) :
    Calls Tryf.prog 13 #[.string l.peer, .string l.frm, .string l.to, .string l.pp, .string l.pf, .slice ap l.arcs.length cp, .string l.bf, .string l.bt, .string l.bp] w fun e w' => Made w w' l e := by
  obtain ⟨h1, h2⟩ := hp
  by_cases h0 : 0 < l.arcs.length
  · obtain ⟨b, o, rfl, q0, q1⟩ := h2 h0
    exact leave_some l b o cp w hn q0 q1
  · have he : l.arcs = [] := List.eq_nil_of_length_eq_zero (by omega)
    have hl : l.arcs.length = 0 := by omega
    cases ap with
    | none =>
      obtain ⟨_, rfl⟩ := h1 rfl
      rw [hl]
      exact leave_nil l w he
    | some a =>
      rw [hl]
      exact leave_empty l a cp w he

end Go.Proofs.Qxb6604739aFmt
