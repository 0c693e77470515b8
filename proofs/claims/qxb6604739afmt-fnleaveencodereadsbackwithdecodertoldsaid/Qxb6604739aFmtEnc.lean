import Derived.Test.Qxb6604739aFmtLaws
import Derived.WalkLawsBesides
namespace Go.Proofs.Qxb6604739aFmt
open Go.RowKit

set_option maxRecDepth 100000 in
set_option maxHeartbeats 1600000 in
theorem appendUvarint_any (sv : Value) (L : List Int) (x : Nat) (w : World) (hown : Own w sv L) (hL : L.length ≤ 268435456) (hx : x < 2097152) :
    Calls Tryf.prog 45 #[sv, .int .u64 x] w fun e w' => ∃ v, e = .returned v ∧ Own w' v (L ++ uv x) ∧ w.grownBy w' sv.ownBlock ∧ ∀ k, v.ownBlock = some k → sv.ownBlock = some k ∨ w.heap.size ≤ k := by
  have hinfo := Tryf.info5
  have hlen := uv_length hx
  go_enter Tryf.func45, Tryf.ntmps45
  go_wp2
  go_loopw [0, 1] (fun vb vx wr => ∃ (y : Nat) (pre : List Int), vx = .int .u64 y ∧ y ≤ x ∧ Hid (uv x = pre ++ uv y) ∧ Own wr vb (L ++ pre) ∧ w.grownBy wr sv.ownBlock ∧ ∀ k, vb.ownBlock = some k → sv.ownBlock = some k ∨ w.heap.size ≤ k)
    (fun _ vx _ => (intOf vx).toNat)
  case atStart => exact ⟨x, [], rfl, Nat.le_refl _, rfl, by simpa using hown, World.grownBy.refl _ _, fun k hk => .inl hk⟩
  case round =>
    obtain ⟨y, pre, rfl, hy, hsplit, hown1, hgr, hnew⟩ := hrel
    have hpl : pre.length + (uv y).length ≤ 3 := by
      have h2 := congrArg List.length hsplit.out
      rw [List.length_append] at h2
      omega
    have hyp := uv_pos y
    have Hg := hide hgr
    have Hn := hide hnew
    clear hgr hnew
    by_cases h128 : 128 ≤ y
    · have hor : bits .or .u8 ((y : Int) % 256) 128 = (y : Int) % 128 + 128 := by
        rw [Lib.u8_or128_any _ (by omega) (by omega)]
        omega
      go_wp2_with (at_builtin; refine wpList_append_bytes _ rfl (.tmp 7) (.tmp 11) 23 rfl Tryf.underlying23 hinfo _ (L ++ pre) rfl (hown1.kept (World.grownBy_alloc _ _ none) (none_or _)) (some ⟨wr.heap.size, 0, none⟩) 1 1 [(y : Int) % 128 + 128] rfl rfl ?a1 ?a2 ?a3 ?_)
      case a1 => simp
      case a2 =>
        intro ad h j hj
        cases h
        match j, hj with
        | 0, _ => simp [Addr.add]
      case a3 => simp; omega
      intro v' w1 r1 r2 r3
      have hs := Hg.out.size
      go_wp2
      go_roundw
      case rel =>
        refine ⟨y / 128, pre ++ [(y : Int) % 128 + 128], by go_num, by omega, ?_, by simpa using r1, grownBy_trans Hg.out (grownBy_trans (World.grownBy_alloc _ _ _) r2 (fun b hb _ => hb)) (fun b hb hlt => (Hn.out b hb).resolve_right (by omega)), fun k hk => ?_⟩
        · have e1 : ((y % 128 + 128 : Nat) : Int) = (y : Int) % 128 + 128 := by omega
          rw [hsplit.out, uv_big h128, e1]
          show _ = _
          simp
        · rcases r3 k hk with h | h
          · exact Hn.out k h
          · exact .inr (by omega)
      case measure => simp [intOf]; omega
    · go_wp2_with (at_builtin; refine wpList_append_bytes _ rfl (.tmp 15) (.tmp 18) 23 rfl Tryf.underlying23 hinfo _ (L ++ pre) rfl (hown1.kept (World.grownBy_alloc _ _ none) (none_or _)) (some ⟨wr.heap.size, 0, none⟩) 1 1 [(y : Int)] rfl rfl ?b1 ?b2 ?b3 ?_)
      case b1 => simp
      case b2 =>
        intro ad h j hj
        cases h
        match j, hj with
        | 0, _ => simp [Addr.add]
      case b3 => simp; omega
      intro v' w1 r1 r2 r3
      have hs := Hg.out.size
      go_wp2
      go_ret
      refine ⟨_, rfl, ?_, grownBy_trans Hg.out (grownBy_trans (World.grownBy_alloc _ _ _) r2 (fun b hb _ => hb)) (fun b hb hlt => (Hn.out b hb).resolve_right (by omega)), fun k hk => ?_⟩
      · rw [hsplit.out, uv_small (by omega), ← List.append_assoc]
        simpa using r1
      · rcases r3 k hk with h | h
        · exact Hn.out k h
        · exact .inr (by omega)

set_option maxRecDepth 100000 in
set_option maxHeartbeats 1600000 in
theorem uint64_any (be : Nat) (v : Value) (L : List Int) (x : Nat) (w : World) (h : Enc be w v L) (hL : L.length ≤ 268435456) (hx : x < 2097152) :
    Calls Tryf.prog 42 #[.pointer (some ⟨be, 0, none⟩), .int .u64 x] w fun e w' => e = .returned (.tuple #[]) ∧ ∃ v', Enc be w' v' (L ++ uv x) ∧ Step be w v w' v' := by
  have hc := h.cell
  have hlt := h.lt
  have H := hide h
  clear h
  go_enter Tryf.func42, Tryf.ntmps42
  go_wp2_with fail
  refine (appendUvarint_any v L x w H.out.own hL hx).mono ?_
  rintro e w1 ⟨v1, rfl, r1, r2, r3⟩
  obtain ⟨a1, n1, c1, rfl⟩ := r1.isSlice
  have hbox1 : w1.heap[be]? = some (.cells #[v] 54 (0, 0)) := (r2.block be hlt (fun e => H.out.ne e.symm)).trans H.out.box
  have hf1 := free_of_one hbox1
  have hc1 := cell_of_one hbox1
  have R1 := hide r1
  have R2 := hide r2
  have R3 := hide r3
  clear r1 r2 r3 hbox1 hc
  go_wp2
  go_end0
  obtain ⟨p1, p2⟩ := H.out.put R1.out R2.out R3.out
  exact ⟨rfl, _, p1, p2⟩

theorem uint_any (be : Nat) (v : Value) (L : List Int) (x : Nat) (w : World) (h : Enc be w v L) (hL : L.length ≤ 268435456) (hx : x < 2097152) :
    Calls Tryf.prog 39 #[.pointer (some ⟨be, 0, none⟩), .int .i64 x] w fun e w' => e = .returned (.tuple #[]) ∧ ∃ v', Enc be w' v' (L ++ uv x) ∧ Step be w v w' v' := by
  have H := hide h
  clear h
  go_enter Tryf.func39, Tryf.ntmps39
  go_wp2_with fail
  refine (uint64_any be v L x w H.out hL hx).mono ?_
  rintro e w1 ⟨rfl, R⟩
  have HR := hide R
  clear R
  go_wp2
  go_end0
  exact ⟨rfl, HR.out⟩

/-- a string on the wire: its length, then its bytes -/
def es (s : ByteArray) : List Int := uv s.size ++ bs s

set_option maxRecDepth 100000 in
set_option maxHeartbeats 1600000 in
theorem string_any (be : Nat) (v : Value) (L : List Int) (s : ByteArray) (w : World) (h : Enc be w v L) (hL : L.length ≤ 134217728) (hs : s.size ≤ 1048576) :
    Calls Tryf.prog 31 #[.pointer (some ⟨be, 0, none⟩), .string s] w fun e w' => e = .returned (.tuple #[]) ∧ ∃ v', Enc be w' v' (L ++ es s) ∧ Step be w v w' v' := by
  have hinfo := Tryf.info5
  have H := hide h
  clear h
  go_enter Tryf.func31, Tryf.ntmps31
  go_wp2_with fail
  refine (uint_any be v L s.size w H.out (by omega) (by omega)).mono ?_
  rintro e w1 ⟨rfl, v1, E1, S1⟩
  have hc1 := E1.cell
  have hlt1 := E1.lt
  have hl1 : (L ++ uv s.size).length ≤ 134217731 := by have := uv_length (x := s.size) (by omega); rw [List.length_append]; omega
  have HE := hide E1
  have HS := hide S1
  clear E1 S1
  go_wp2_with (at_builtin; refine wpList_append_str _ rfl (.tmp 12) (.tmp 13) 23 9 rfl Tryf.underlying23 Tryf.underlying9 hinfo v1 (L ++ uv s.size) rfl HE.out.own s rfl ?a1 ?_)
  case a1 => omega
  intro v2 w2 r1 r2 r3
  obtain ⟨a2, n2, c2, rfl⟩ := r1.isSlice
  have hbox1 : w2.heap[be]? = some (.cells #[v1] 54 (0, 0)) := (r2.block be hlt1 (fun e => HE.out.ne e.symm)).trans HE.out.box
  have hf1 := free_of_one hbox1
  have hc2 := cell_of_one hbox1
  have R1 := hide r1
  have R2 := hide r2
  have R3 := hide r3
  clear r1 r2 r3 hbox1 hc1
  go_wp2
  go_end0
  obtain ⟨p1, p2⟩ := HE.out.put R1.out R2.out R3.out
  refine ⟨rfl, _, ?_, HS.out.trans p2⟩
  exact p1

theorem pair_cells (w : World) (a b : Value) (t : TypeId) : (w.alloc (.cells #[a, b] t)).cell? ⟨w.heap.size, 0, none⟩ = some a ∧ (w.alloc (.cells #[a, b] t)).cell? ⟨w.heap.size, 1, none⟩ = some b := by
  constructor <;> simp

set_option maxRecDepth 100000 in
set_option maxHeartbeats 1600000 in
theorem entry_any (be : Nat) (v : Value) (L : List Int) (p q : ByteArray) (w : World) (h : Enc be w v L) (hL : L.length ≤ 67108864) (hp : p.size ≤ 1048576) (hq : q.size ≤ 1048576) :
    Calls Tryf.prog 33 #[.pointer (some ⟨be, 0, none⟩), .agg #[.string p, .string q]] w fun e w' => e = .returned (.tuple #[]) ∧ ∃ v', Enc be w' v' (L ++ (es p ++ es q)) ∧ Step be w v w' v' := by
  have H := hide h
  have hlt := h.lt
  clear h
  have hpl : (es p).length ≤ 1048579 := by have := uv_length (x := p.size) (by omega); rw [es, List.length_append, bs_length]; omega
  go_enter Tryf.func33, Tryf.ntmps33
  go_wp2_with fail
  refine (string_any be v L p _ (H.out.alloc _) (by omega) hp).mono ?_
  rintro e w1 ⟨rfl, v1, E1, S1⟩
  have hq1 : w1.cell? ⟨w.heap.size, 1, none⟩ = some (.string q) := S1.cell (pair_cells w _ _ 75).2 (by simp; omega) (fun e => by have := H.out.own.lt _ e; simp at this)
  have HE := hide E1
  have HS := hide S1
  clear E1 S1
  go_wp2_with fail
  refine (string_any be v1 _ q w1 HE.out (by rw [List.length_append]; omega) hq).mono ?_
  rintro e w2 ⟨rfl, v2, E2, S2⟩
  have HE2 := hide E2
  have HS2 := hide S2
  clear E2 S2
  go_wp2
  go_end0
  refine ⟨rfl, v2, ?_, ((Step.refl be w v).alloc _).trans (HS.out.trans HS2.out)⟩
  rw [← List.append_assoc]
  exact HE2.out

set_option maxRecDepth 100000 in
set_option maxHeartbeats 1600000 in
theorem arc_any (be : Nat) (v : Value) (L : List Int) (p q : ByteArray) (w : World) (h : Enc be w v L) (hL : L.length ≤ 67108864) (hp : p.size ≤ 1048576) (hq : q.size ≤ 1048576) :
    Calls Tryf.prog 35 #[.pointer (some ⟨be, 0, none⟩), .agg #[.string p, .string q]] w fun e w' => e = .returned (.tuple #[]) ∧ ∃ v', Enc be w' v' (L ++ (es p ++ es q)) ∧ Step be w v w' v' := by
  have H := hide h
  have hlt := h.lt
  clear h
  have hpl : (es p).length ≤ 1048579 := by have := uv_length (x := p.size) (by omega); rw [es, List.length_append, bs_length]; omega
  go_enter Tryf.func35, Tryf.ntmps35
  go_wp2_with fail
  refine (string_any be v L p _ (H.out.alloc _) (by omega) hp).mono ?_
  rintro e w1 ⟨rfl, v1, E1, S1⟩
  have hq1 : w1.cell? ⟨w.heap.size, 1, none⟩ = some (.string q) := S1.cell (pair_cells w _ _ 73).2 (by simp; omega) (fun e => by have := H.out.own.lt _ e; simp at this)
  have HE := hide E1
  have HS := hide S1
  clear E1 S1
  go_wp2_with fail
  refine (string_any be v1 _ q w1 HE.out (by rw [List.length_append]; omega) hq).mono ?_
  rintro e w2 ⟨rfl, v2, E2, S2⟩
  have HE2 := hide E2
  have HS2 := hide S2
  clear E2 S2
  go_wp2
  go_end0
  refine ⟨rfl, v2, ?_, ((Step.refl be w v).alloc _).trans (HS.out.trans HS2.out)⟩
  rw [← List.append_assoc]
  exact HE2.out

end Go.Proofs.Qxb6604739aFmt
