import Derived.Test.Qxb6604739aBuild
import Derived.Test.Qxb6604739aRead
namespace Go.Proofs.Qxb6604739a
open Go.RowKit

theorem clone_nil (w : World) : Calls Try.prog 6 #[.slice none 0 0] w fun e w' => e = .returned (.slice none 0 0) ∧ w' = w := by
  have hnil := fun w : World => Lib.run_eql_slice_nil (P := Try.prog) w 22 5 none 0 0 0 0 Try.underlying22
  go_enter Try.func6, Try.ntmps6
  go_wp2
  go_ret
  exact ⟨rfl, rfl⟩

set_option maxHeartbeats 800000 in
theorem clone_some (ad : Addr) (n c : Nat) (L : List Int) (w : World) (hl : L.length = n) (hn : n ≤ 16777216) (hcell : ∀ i, i < n → w.cell? (ad.add i) = some (.int .u8 (L.getD i 0))) :
    Calls Try.prog 6 #[.slice (some ad) n c] w fun e w' => ∃ v, e = .returned v ∧ Own w' v L ∧ w.grownBy w' none ∧ ∀ k, v.ownBlock = some k → w.heap.size ≤ k := by
  obtain ⟨i0, hi, hz0, hz1, hz2⟩ := info_parts Try.info5
  have hsz : (Try.prog.info? 5).map (·.size) = some 1 := by rw [hi]; simp [hz1]
  have hnil := fun w : World => Lib.run_eql_slice_nil (P := Try.prog) w 22 5 (some ad) n c 0 0 Try.underlying22
  go_enter Try.func6, Try.ntmps6
  go_wp2_with (at_make; refine wpList_make_full _ rfl (.tmp 7) (.tmp 7) 22 rfl w.heap.size 5 i0 (.int .u8 0) 1 Try.underlying22 hi hz0 hz1 _ _ _ _ n rfl rfl rfl rfl ?c1 ?c2 ?c3 ?_)
  case c1 => rw [hz2]; omega
  case c2 => unfold maxLen; omega
  case c3 => exact Nat.le_refl _
  intro w1 hown hgrow
  obtain ⟨cur, hcur, hsize⟩ : ∃ cur : Array Value, w1.heap[w.heap.size]? = some (.cells cur 5 (0, 0)) ∧ cur.size = n := by
    rcases hown.2 with ⟨h, _⟩ | ⟨g, cap, cur, h1, _, h2, _, _, h3, _⟩
    · cases h
    · simp only [Value.slice.injEq, Option.some.injEq, Addr.mk.injEq] at h1
      obtain ⟨⟨rfl, _⟩, _, rfl⟩ := h1
      exact ⟨cur, h2, by simpa using h3⟩
  have Hcur := hide hcur
  have Hgrow := hide hgrow
  have Hcell := hide hcell
  clear hcur hown hgrow hcell hnil
  have hb1 : Below w.heap.size w w1 := grownBy_below Hgrow.out (Nat.le_refl _) (by simp)
  have hsrc : Hid (∀ j v, (L.map (Value.int .u8))[j]? = some v → w1.cell? (ad.add j) = some v) := by
    intro j v hj
    obtain ⟨hj, rfl⟩ := getD_of_map hj
    exact cell_later hb1 (Hcell.out j (by omega))
  go_wp2_with (refine wpList_copy_splice rfl (.tmp 9) (.tmp 10) 22 22 rfl 5 Try.underlying22 hsz (some ⟨w.heap.size, 0, none⟩) (some ad) n n n c rfl rfl w.heap.size 0 cur.toList 5 (by simpa using Hcur.out) (L.map (Value.int .u8)) (by simp [hl]) (fun _ => ⟨rfl, ad, rfl, hsrc.out⟩) (by simp [hl, hsize]) (ints_oneCell _ _) w.heap.size w hb1 (Nat.le_refl _) ?_)
  intro w2 hg2 hb2
  go_wp2
  go_ret
  have e2 : splice cur.toList 0 (L.map (Value.int .u8)) = L.map (Value.int .u8) := by simp [splice, hl, hsize]
  have hg3 := hg2.out
  rw [e2] at hg3
  refine ⟨_, rfl, ⟨by simp, .inr ⟨w.heap.size, n, _, by rw [hl]; rfl, Nat.zero_le _, hg3, by omega, by unfold maxLen; omega, by simp [hl], by rw [List.take_of_length_le (by simp)]⟩⟩, below_grownBy hb2 _, fun k hk => ?_⟩
  cases hk
  exact Nat.le_refl _

/-- zzClone at whatever slice of bytes: what comes back holds the same bytes in a row of its own. -/
theorem clone_any (ao : Option Addr) (n c : Nat) (L : List Int) (w : World) (hl : L.length = n) (hn : n ≤ 16777216) (hnone : ao = none → n = 0 ∧ c = 0) (hcell : ∀ ad, ao = some ad → ∀ i, i < n → w.cell? (ad.add i) = some (.int .u8 (L.getD i 0))) :
    Calls Try.prog 6 #[.slice ao n c] w fun e w' => ∃ v, e = .returned v ∧ Own w' v L ∧ w.grownBy w' none ∧ ∀ k, v.ownBlock = some k → w.heap.size ≤ k := by
  cases ao with
  | none =>
    obtain ⟨rfl, rfl⟩ := hnone rfl
    obtain rfl : L = [] := List.eq_nil_of_length_eq_zero hl
    refine (clone_nil w).mono ?_
    rintro e w' ⟨rfl, rfl⟩
    exact ⟨_, rfl, own_nil _, World.grownBy.refl _ _, fun k hk => by cases hk⟩
  | some ad => exact clone_some ad n c L w hl hn (hcell ad rfl)


/-- it has handed back a bool -/
def IsBool (e : Ending) : Prop := ∃ r : Bool, e = .returned (.bool r)
theorem isBool (r : Bool) : IsBool (.returned (.bool r)) := ⟨r, rfl⟩

set_option maxRecDepth 100000 in
set_option maxHeartbeats 3200000 in
theorem bytes4_any (a0 ap : Option Addr) (n0 c0 cp : Nat) (l : Lv) (w : World) (hp : ProvIn w ap cp l.arcs) :
    Calls Try.prog 4 #[.slice a0 n0 c0, .string l.peer, .string l.frm, .string l.to, .string l.pp, .string l.pf, .slice ap l.arcs.length cp, .string l.bf, .string l.bt, .string l.bp] w fun e w' => IsBool e ∧ w = w' := by
  have HP := hide hp.2
  clear hp
  go_enter Try.func4, Try.ntmps4
  go_wp2
  any_goals (go_ret; exact ⟨isBool _, rfl⟩)
  go_loop [21, 22] (fun z i => ∃ (k : Nat) (y : Int), k ≤ l.arcs.length ∧ i = .int .i64 k ∧ 0 ≤ y ∧ y ≤ 1048576 ∧ z = .int .i64 y) (fun _ i => l.arcs.length - (intOf i).toNat)
  case atStart => exact ⟨0, _, Nat.zero_le _, rfl, by omega, by omega, rfl⟩
  case round =>
    obtain ⟨k, y, hk, rfl, hy0, hy1, rfl⟩ := hrel
    by_cases hlt : k < l.arcs.length
    · obtain ⟨b, o, rfl, q0, q1⟩ := HP.out (by omega)
      have c0 := q0 k hlt
      have c1 := q1 k hlt
      obtain ⟨p, Hp⟩ : ∃ p, Hid (nth l.arcs k = p) := ⟨_, rfl⟩
      rw [Hp.out] at c0 c1
      clear q0 q1 HP
      go_wp2
      any_goals (go_ret; exact ⟨isBool _, rfl⟩)
      go_round
      case rel => exact ⟨k + 1, _, by omega, by go_num, by omega, by omega, rfl⟩
      case measure => simp [intOf]; omega
    · go_wp2
      all_goals (go_ret; exact ⟨isBool _, rfl⟩)

/-- how many bytes the arcs' strings have -/
def asz (A : List (ByteArray × ByteArray)) : Nat := (A.map fun p => p.1.size + p.2.size).sum

theorem asz_succ (A : List (ByteArray × ByteArray)) (k : Nat) (h : k < A.length) : asz (A.take (k + 1)) = asz (A.take k) + ((nth A k).1.size + (nth A k).2.size) := by
  have e : nth A k = A[k] := by simp [nth, h]
  rw [List.take_succ_eq_append_getElem h, e]
  simp only [asz, List.map_append, List.sum_append, List.map_cons, List.map_nil, List.sum_cons, List.sum_nil, Nat.add_zero]

theorem eas_le : ∀ (A : List (ByteArray × ByteArray)), (∀ p ∈ A, p.1.size ≤ 1048576 ∧ p.2.size ≤ 1048576) → (eas A).length ≤ asz A + 6 * A.length
  | [], _ => by simp [eas]
  | p :: A, h => by
    have h1 := eas_le A (fun q hq => h q (List.mem_cons_of_mem _ hq))
    have h2 := h p (List.mem_cons_self)
    have e1 : eas (p :: A) = ea p ++ eas A := rfl
    have e2 : asz (p :: A) = p.1.size + p.2.size + asz A := rfl
    have u1 := uv_length (x := p.1.size) (by omega)
    have u2 := uv_length (x := p.2.size) (by omega)
    have l1 : (ea p).length = (uv p.1.size).length + p.1.size + ((uv p.2.size).length + p.2.size) := by
      rw [ea, List.length_append, es, es, List.length_append, List.length_append, bs_length, bs_length]
    rw [e1, e2, List.length_append, List.length_cons]
    omega

theorem mem_nth {A : List (ByteArray × ByteArray)} {p : ByteArray × ByteArray} (h : p ∈ A) : ∃ i, i < A.length ∧ nth A i = p := by
  obtain ⟨i, hi, rfl⟩ := List.getElem_of_mem h
  exact ⟨i, hi, by simp [nth, hi]⟩

/-- zzLeaveTooBig's answer: yes; or no, and all is short -/
def TooBig (l : Lv) (n0 : Nat) (e : Ending) : Prop := e = .returned (.bool true) ∨ (e = .returned (.bool false) ∧ n0 ≤ 1048576 ∧ l.Short)

theorem tooBig_yes (l : Lv) (n0 : Nat) : TooBig l n0 (.returned (.bool true)) := .inl rfl

theorem tooBig_no (l : Lv) (n0 : Nat) (h0 : n0 ≤ 1048576) (h1 : l.peer.size ≤ 1048576) (h2 : l.frm.size ≤ 1048576) (h3 : l.to.size ≤ 1048576) (h4 : l.pp.size ≤ 1048576) (h5 : l.pf.size ≤ 1048576) (h6 : l.bf.size ≤ 1048576) (h7 : l.bt.size ≤ 1048576) (h8 : l.bp.size ≤ 1048576)
    (hn : l.arcs.length ≤ 65536) (ha : ∀ i, i < l.arcs.length → (nth l.arcs i).1.size ≤ 1048576 ∧ (nth l.arcs i).2.size ≤ 1048576) (hs : asz l.arcs ≤ 1048576) : TooBig l n0 (.returned (.bool false)) := by
  refine .inr ⟨rfl, h0, h1, h2, h3, h4, h5, h6, h7, h8, hn, ha, ?_⟩
  have := eas_le l.arcs (fun p hp => by obtain ⟨i, hi, rfl⟩ := mem_nth hp; exact ha i hi)
  omega

set_option maxRecDepth 100000 in
set_option maxHeartbeats 3200000 in
theorem tooBig_any (a0 ap : Option Addr) (n0 c0 cp : Nat) (l : Lv) (w : World) (hp : ProvIn w ap cp l.arcs) :
    Calls Try.prog 5 #[.slice a0 n0 c0, .string l.peer, .string l.frm, .string l.to, .string l.pp, .string l.pf, .slice ap l.arcs.length cp, .string l.bf, .string l.bt, .string l.bp] w fun e w' => TooBig l n0 e ∧ ∃ m, w' = w.drewN m := by
  have HP := hide hp.2
  clear hp
  go_enter Try.func5, Try.ntmps5
  go_wp2
  any_goals (go_ret; exact ⟨tooBig_yes _ _, 0, rfl⟩)
  go_loopw [21, 22] (fun z i wr => ∃ (k : Nat) (y : Int), k ≤ l.arcs.length ∧ i = .int .i64 k ∧ 0 ≤ y ∧ y ≤ 1048576 ∧ z = .int .i64 y ∧ Hid ((asz (l.arcs.take k) : Int) ≤ y) ∧ Hid (∀ i, i < k → (nth l.arcs i).1.size ≤ 1048576 ∧ (nth l.arcs i).2.size ≤ 1048576) ∧ ∃ m, wr = w.drewN m) (fun _ i _ => l.arcs.length - (intOf i).toNat)
  case atStart => exact ⟨0, _, Nat.zero_le _, rfl, by omega, by omega, rfl, (by show _ ≤ _; simp [asz]; omega), (fun i hi => by omega), 0, rfl⟩
  case round =>
    obtain ⟨k, y, hk, rfl, hy0, hy1, rfl, hya, hall, m, rfl⟩ := hrel
    by_cases hlt : k < l.arcs.length
    · obtain ⟨b, o, rfl, q0, q1⟩ := HP.out (by omega)
      have c0 := q0 k hlt
      have c1 := q1 k hlt
      obtain ⟨p, Hp⟩ : ∃ p, Hid (nth l.arcs k = p) := ⟨_, rfl⟩
      rw [Hp.out] at c0 c1
      have hlt' : (k : Int) < (l.arcs.length : Int) := by omega
      clear q0 q1 HP
      go_wp2
      any_goals (go_ret; exact ⟨tooBig_yes _ _, m, rfl⟩)
      go_quiet (fail)
      go_wp2
      any_goals (go_ret; exact ⟨tooBig_yes _ _, _, rfl⟩)
      refine ⟨⟨k + 1, _, by omega, by go_num, by omega, by omega, rfl, ?_, ?_, _, rfl⟩, by simp [intOf]; omega⟩
      · show _ ≤ _
        have := hya.out
        rw [asz_succ _ _ hlt, Hp.out]
        omega
      · intro i hi
        by_cases he : i = k
        · rw [he, Hp.out]; omega
        · exact hall.out i (by omega)
    · obtain rfl : k = l.arcs.length := by omega
      go_wp2
      go_ret
      have h1 := hya.out
      rw [List.take_length] at h1
      exact ⟨tooBig_no _ _ (by omega) (by omega) (by omega) (by omega) (by omega) (by omega) (by omega) (by omega) (by omega) (by omega) hall.out (by omega), m, rfl⟩

end Go.Proofs.Qxb6604739a
