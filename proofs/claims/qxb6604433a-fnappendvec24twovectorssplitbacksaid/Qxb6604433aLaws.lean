import Derived.Test.Qxb6604433aRows
import Derived.WalkKit
import Derived.WalkSpells
import Derived.Laws.CopyOwn
import Derived.Laws.AppendOwnNone
namespace Go.Proofs.Qxb6604433a
open Go.RowKit

/-- 'v' is a slice of bytes at the head of a row of its own (or nil): it holds the numbers 'L'. The row's number is 'v.ownBlock'. -/
def Own (w : World) (v : Value) (L : List Int) : Prop := w.ownsRow 0 5 1 v L.length (L.map (Value.int .u8))

theorem hide {p : Prop} (h : p) : Hid p := h

theorem own_nil (w : World) : Own w (.slice none 0 0) [] := World.ownsRow_nil w 0 5 1

theorem Own.kept {w w' : World} {v : Value} {L : List Int} {row : Option Nat} (h : Own w v L) (hg : w.grownBy w' row) (hne : v.ownBlock = none ∨ v.ownBlock ≠ row) : Own w' v L := World.ownsRow.kept h hg hne

theorem Own.lt {w : World} {v : Value} {L : List Int} (h : Own w v L) : ∀ k, v.ownBlock = some k → k < w.heap.size := fun k hk => (World.ownsRow.lt h k hk).2

theorem Own.form {w : World} {v : Value} {L : List Int} (h : Own w v L) :
    (v = .slice none 0 0 ∧ L = []) ∨ ∃ g cap, v = .slice (some ⟨g, 0, none⟩) L.length cap ∧ L.length ≤ cap ∧ cap ≤ maxLen ∧ ∀ j, j < L.length → w.cell? ⟨g, j, none⟩ = some (.int .u8 (L.getD j 0)) := by
  have hc := @World.ownsRow.cells _ _ _ _ _ _ _ h
  obtain ⟨_, h2⟩ := h
  rcases h2 with ⟨rfl, hl⟩ | ⟨g, cap, cur, rfl, _, _, hn, hm, _, _⟩
  · exact .inl ⟨rfl, List.eq_nil_of_length_eq_zero hl⟩
  · refine .inr ⟨g, cap, rfl, hn, hm, fun j hj => ?_⟩
    have := hc (g := g) rfl j (.int .u8 (L.getD j 0)) (by simp [hj, List.getD])
    rw [Addr.add_lit, Nat.zero_add] at this; exact this

theorem Own.slice {w : World} {v : Value} {L : List Int} (h : Own w v L) :
    ∃ ao c, v = .slice ao L.length c ∧ (ao = none → L.length = 0 ∧ c = 0) ∧ L.length ≤ c ∧ c ≤ maxLen ∧ ∀ ad, ao = some ad → (∃ g, ad = ⟨g, 0, none⟩) ∧ ∀ j, j < L.length → w.cell? (ad.add j) = some (.int .u8 (L.getD j 0)) := by
  rcases h.form with ⟨rfl, rfl⟩ | ⟨g, cap, rfl, h1, h2, h3⟩
  · exact ⟨none, 0, rfl, fun _ => ⟨rfl, rfl⟩, Nat.le_refl _, by unfold maxLen; omega, fun ad h => by cases h⟩
  · refine ⟨some ⟨g, 0, none⟩, cap, rfl, (fun h => by cases h), h1, h2, fun ad h => ?_⟩
    cases h
    exact ⟨⟨g, rfl⟩, fun j hj => by rw [Addr.add_lit, Nat.zero_add]; exact h3 j hj⟩

theorem none_or (r : Option Nat) : r = none ∨ r ≠ none := by cases r <;> simp

theorem grownBy_trans {w w1 w2 : World} {r r2 : Option Nat} (h : w.grownBy w1 r) (k : w1.grownBy w2 r2) (hr : ∀ b, r2 = some b → b < w.heap.size → r = some b) : w.grownBy w2 r :=
  ⟨k.os.trans h.os, k.tape.trans h.tape, k.output.trans h.output, Nat.le_trans h.size k.size, fun b hb hne =>
    (k.block b (Nat.lt_of_lt_of_le hb h.size) (fun e => hne (hr b e.symm hb).symm)).trans (h.block b hb hne)⟩

theorem grownBy_below {w w' : World} {r : Option Nat} (h : w.grownBy w' r) {B : Nat} (hB : B ≤ w.heap.size) (hr : ∀ k, r = some k → B ≤ k) : Below B w w' := (Below.refl B w).grown h hB hr

theorem below_grownBy {w w' : World} (h : Below w.heap.size w w') (r : Option Nat) : w.grownBy w' r := ⟨h.os, h.tape, h.output, h.size, fun k hk _ => h.block k hk⟩

theorem getD_of_map {N : List Int} {j : Nat} {u : Value} (h : (N.map (Value.int .u8))[j]? = some u) : j < N.length ∧ u = .int .u8 (N.getD j 0) := by
  simp only [List.getElem?_map, Option.map_eq_some_iff] at h
  obtain ⟨z, hz, rfl⟩ := h
  have hj := (List.getElem?_eq_some_iff.1 hz).1
  exact ⟨hj, by simp [List.getD, hz]⟩

/-- 'append(s, x...)' on bytes: what comes back owns both; the row is s's own, or a new one. -/
theorem wpList_append_bytes {P : Program} (w : World) {ops : Array Oper} {rest : List Oper} {o : Oper} {a : Act} {Q : Exit → Act → World → Prop}
    (hg : o.guard = none) (s x : Operand) (t : TypeId) (hop : o.op = Op.call { callee := Callee.builtin Builtin.append, args := #[s, x], argTypes := #[t, t] })
    (ht : P.underlying t = some (.slice 5)) (hinfo : (P.info? 5).map (fun i => (i.zero, i.size, i.bytes)) = some (some (.int .u8 0), 1, 1))
    (v : Value) (L : List Int) (hs : a.eval s = v) (hown : Own w v L) (ao : Option Addr) (m c : Nat) (N : List Int) (hx : a.eval x = .slice ao m c) (hm : N.length = m) (hnone : ao = none → m = 0 ∧ c = 0)
    (hc : ∀ ad, ao = some ad → ∀ j, j < m → w.cell? (ad.add j) = some (.int .u8 (N.getD j 0))) (hb : L.length + m ≤ 1099511627776)
    (hK : ∀ v' w', Own w' v' (L ++ N) → w.grownBy w' v.ownBlock → (∀ k, v'.ownBlock = some k → v.ownBlock = some k ∨ w.heap.size ≤ k) → wpList P ops Q rest (a.put o.dst v') w') :
    wpList P ops Q (o :: rest) a w := by
  obtain ⟨i0, hi, hz0, hz1, hz2⟩ := info_parts hinfo
  cases ao with
  | none =>
    obtain ⟨rfl, rfl⟩ := hnone rfl
    obtain rfl : N = [] := List.eq_nil_of_length_eq_zero hm
    refine wpList_append_own_none hg s x t hop 0 5 i0 1 ht hi v L.length _ hs hown hx ?_
    exact hK v w (by simpa using hown) (World.grownBy.refl _ _) (fun k hk => .inl hk)
  | some ad =>
    have hnews : ∀ j u, (N.map (Value.int .u8))[j]? = some u → w.cell? (ad.add j) = some u := fun j u hu => by
      obtain ⟨hj, rfl⟩ := getD_of_map hu
      exact hc ad rfl j (by omega)
    have hone := ints_oneCell .u8 N
    have hl : (N.map (Value.int .u8)).length = m * 1 := by simp [hm]
    have hmax : L.length + m ≤ maxLen := by unfold maxLen; omega
    have fin : ∀ {base n : Nat} {v' : Value} {w' : World}, w'.ownsRow base 5 1 v' n (L.map (Value.int .u8) ++ N.map (Value.int .u8)) → n = L.length + m → Own w' v' (L ++ N) := by
      intro base n v' w' h e
      subst e
      obtain ⟨h1, h2⟩ := h
      refine ⟨by simp, ?_⟩
      rw [List.length_append, hm, List.map_append]
      rcases h2 with ⟨e1, e2⟩ | ⟨g, cap, cur, h1, _, h3⟩
      · exact .inl ⟨e1, e2⟩
      · exact .inr ⟨g, cap, cur, h1, Nat.zero_le _, h3⟩
    have new : ∀ {n : Nat} {v' : Value} {w' : World} {xs : List Value}, w'.ownsRow w.heap.size 5 1 v' n xs → ∀ k, v'.ownBlock = some k → v.ownBlock = some k ∨ w.heap.size ≤ k :=
      fun h k hk => .inr (World.ownsRow.lt h k hk).1
    have toRow : ∀ {w' : World} {r : Option Nat}, w.grownBy w' none → w.grownBy w' r := fun h => ⟨h.os, h.tape, h.output, h.size, fun k hk _ => h.block k hk (by simp)⟩
    have hcells := @World.ownsRow.cells _ _ _ _ _ _ _ hown
    rcases hown.2 with ⟨rfl, hL⟩ | ⟨g, cap, cur, rfl, h1, h2, h3, h4, h5, h6⟩
    · obtain rfl : L = [] := List.eq_nil_of_length_eq_zero hL
      by_cases h0 : m = 0
      · subst h0
        obtain rfl : N = [] := List.eq_nil_of_length_eq_zero hm
        refine wpList_append_own w hg s x t hop w.heap.size 5 i0 (.int .u8 0) 1 1 ht hi hz0 hz1 hz2 rfl (by decide) _ 0 [] hs (World.ownsRow_nil _ _ _ _) ad 0 c [] hx rfl (by simp) (by simp) (by unfold maxLen; omega) (by omega) (Nat.le_refl _) ?_
        intro v' w' r1 r2 _
        exact hK v' w' (fin (by simpa using r1) (by simp)) r2 (new r1)
      · refine wpList_append_grows w hg s x t hop 5 i0 (.int .u8 0) 1 1 ht hi hz0 hz1 hz2 rfl (by decide) none 0 0 [] hs (fun _ => ⟨rfl, rfl⟩) rfl (by simp) ad m c _ hx hl hnews hone (by omega) (by simpa using hmax) (by simp at hb; omega) ?_
        intro v' w' r1 r2
        exact hK v' w' (fin (by simpa using r1) (by simp)) (toRow r2) (new r1)
    · by_cases hr : L.length + m ≤ cap
      · refine wpList_append_fits w hg s x t hop 0 5 i0 1 ht hi hz1 g L.length cap _ hs ⟨by simp, .inr ⟨g, cap, cur, rfl, h1, h2, h3, h4, h5, h6⟩⟩ ad m c _ hx hl hnews hone hr ?_
        intro w' r1 r2
        exact hK _ w' (fin r1 rfl) r2 (fun k hk => .inl hk)
      · refine wpList_append_grows w hg s x t hop 5 i0 (.int .u8 0) 1 1 ht hi hz0 hz1 hz2 rfl (by decide) (some ⟨g, 0, none⟩) L.length cap (L.map (Value.int .u8)) hs (by simp) (by simp) ?_ ad m c _ hx hl hnews hone (by omega) hmax (by omega) ?_
        · intro b hb' j u hj
          obtain rfl := Option.some.inj hb'
          exact hcells (g := g) rfl j u hj
        · intro v' w' r1 r2
          exact hK v' w' (fin r1 rfl) (toRow r2) (new r1)

theorem Try.info5 : (Try.prog.info? 5).map (fun i => (i.zero, i.size, i.bytes)) = some (some (.int .u8 0), 1, 1) := by kernel_rfl

end Go.Proofs.Qxb6604433a
