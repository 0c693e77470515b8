import Derived.Test.Qxb6604739aFmtBuild
import Derived.Test.Qxb6604739aFmtRead
namespace Go.Proofs.Qxb6604739aFmt
open Go.RowKit

/-- how many bytes the arcs' strings have -/
def asz (A : List (ByteArray × ByteArray)) : Nat := (A.map fun p => p.1.size + p.2.size).sum

theorem asz_succ (A : List (ByteArray × ByteArray)) (k : Nat) (h : k < A.length) : asz (A.take (k + 1)) = asz (A.take k) + ((nth A k).1.size + (nth A k).2.size) := by
  have e : nth A k = A[k] := by simp [nth, h]
  rw [List.take_succ_eq_append_getElem h, e]
  simp only [asz, List.map_append, List.sum_append, List.map_cons, List.map_nil, List.sum_cons, List.sum_nil, Nat.add_zero]

theorem eas_le : ∀ (A : List (ByteArray × ByteArray)), (∀ p ∈ A, p.1.size ≤ 1048576 ∧ p.2.size ≤ 1048576) → (eas A).length ≤ asz A + 6 * A.length
  | [], _ => by simp [eas]
  | p :: A, h => by
    have h1 := eas_le A (fun q hq => h q (List.mem_cons_of_mem _ hq))
    have h2 := h p (List.mem_cons_self)
    have e1 : eas (p :: A) = ea p ++ eas A := rfl
    have e2 : asz (p :: A) = p.1.size + p.2.size + asz A := rfl
    have u1 := uv_length (x := p.1.size) (by omega)
    have u2 := uv_length (x := p.2.size) (by omega)
    have l1 : (ea p).length = (uv p.1.size).length + p.1.size + ((uv p.2.size).length + p.2.size) := by
      rw [ea, List.length_append, es, es, List.length_append, List.length_append, bs_length, bs_length]
    rw [e1, e2, List.length_append, List.length_cons]
    omega

theorem mem_nth {A : List (ByteArray × ByteArray)} {p : ByteArray × ByteArray} (h : p ∈ A) : ∃ i, i < A.length ∧ nth A i = p := by
  obtain ⟨i, hi, rfl⟩ := List.getElem_of_mem h
  exact ⟨i, hi, by simp [nth, hi]⟩

/-- zzLeaveTooBig's answer: yes; or no, and all is short -/
def TooBig (l : Lv) (n0 : Nat) (e : Ending) : Prop := e = .returned (.bool true) ∨ (e = .returned (.bool false) ∧ n0 ≤ 1048576 ∧ l.Short)

theorem tooBig_yes (l : Lv) (n0 : Nat) : TooBig l n0 (.returned (.bool true)) := .inl rfl

theorem tooBig_no (l : Lv) (n0 : Nat) (h0 : n0 ≤ 1048576) (h1 : l.peer.size ≤ 1048576) (h2 : l.frm.size ≤ 1048576) (h3 : l.to.size ≤ 1048576) (h4 : l.pp.size ≤ 1048576) (h5 : l.pf.size ≤ 1048576) (h6 : l.bf.size ≤ 1048576) (h7 : l.bt.size ≤ 1048576) (h8 : l.bp.size ≤ 1048576)
    (hn : l.arcs.length ≤ 65536) (ha : ∀ i, i < l.arcs.length → (nth l.arcs i).1.size ≤ 1048576 ∧ (nth l.arcs i).2.size ≤ 1048576) (hs : asz l.arcs ≤ 1048576) : TooBig l n0 (.returned (.bool false)) := by
  refine .inr ⟨rfl, h0, h1, h2, h3, h4, h5, h6, h7, h8, hn, ha, ?_⟩
  have := eas_le l.arcs (fun p hp => by obtain ⟨i, hi, rfl⟩ := mem_nth hp; exact ha i hi)
  omega

set_option maxRecDepth 100000 in
set_option maxHeartbeats 3200000 in
theorem tooBig_any (a0 ap : Option Addr) (n0 c0 cp : Nat) (l : Lv) (w : World) (hp : ProvIn w ap cp l.arcs) :
    Calls Tryf.prog 12 #[.slice a0 n0 c0, .string l.peer, .string l.frm, .string l.to, .string l.pp, .string l.pf, .slice ap l.arcs.length cp, .string l.bf, .string l.bt, .string l.bp] w fun e w' => TooBig l n0 e ∧ ∃ m, w' = w.drewN m := by
  have HP := hide hp.2
  clear hp
  go_enter Tryf.func12, Tryf.ntmps12
  go_wp2
  any_goals (go_ret; exact ⟨tooBig_yes _ _, 0, rfl⟩)
  go_loopw [21, 22] (fun z i wr => ∃ (k : Nat) (y : Int), k ≤ l.arcs.length ∧ i = .int .i64 k ∧ 0 ≤ y ∧ y ≤ 1048576 ∧ z = .int .i64 y ∧ Hid ((asz (l.arcs.take k) : Int) ≤ y) ∧ Hid (∀ i, i < k → (nth l.arcs i).1.size ≤ 1048576 ∧ (nth l.arcs i).2.size ≤ 1048576) ∧ ∃ m, wr = w.drewN m) (fun _ i _ => l.arcs.length - (intOf i).toNat)
  case atStart => exact ⟨0, _, Nat.zero_le _, rfl, by omega, by omega, rfl, (by show _ ≤ _; simp [asz]; omega), (fun i hi => by omega), 0, rfl⟩
  case round =>
    obtain ⟨k, y, hk, rfl, hy0, hy1, rfl, hya, hall, m, rfl⟩ := hrel
    by_cases hlt : k < l.arcs.length
    · obtain ⟨b, o, rfl, q0, q1⟩ := HP.out (by omega)
      have c0 := q0 k hlt
      have c1 := q1 k hlt
      obtain ⟨p, Hp⟩ : ∃ p, Hid (nth l.arcs k = p) := ⟨_, rfl⟩
      rw [Hp.out] at c0 c1
      have hlt' : (k : Int) < (l.arcs.length : Int) := by omega
      clear q0 q1 HP
      go_wp2
      any_goals (go_ret; exact ⟨tooBig_yes _ _, m, rfl⟩)
      go_quiet (fail)
      go_wp2
      any_goals (go_ret; exact ⟨tooBig_yes _ _, _, rfl⟩)
      refine ⟨⟨k + 1, _, by omega, by go_num, by omega, by omega, rfl, ?_, ?_, _, rfl⟩, by simp [intOf]; omega⟩
      · show _ ≤ _
        have := hya.out
        rw [asz_succ _ _ hlt, Hp.out]
        omega
      · intro i hi
        by_cases he : i = k
        · rw [he, Hp.out]; omega
        · exact hall.out i (by omega)
    · obtain rfl : k = l.arcs.length := by omega
      go_wp2
      go_ret
      have h1 := hya.out
      rw [List.take_length] at h1
      exact ⟨tooBig_no _ _ (by omega) (by omega) (by omega) (by omega) (by omega) (by omega) (by omega) (by omega) (by omega) (by omega) hall.out (by omega), m, rfl⟩

end Go.Proofs.Qxb6604739aFmt
