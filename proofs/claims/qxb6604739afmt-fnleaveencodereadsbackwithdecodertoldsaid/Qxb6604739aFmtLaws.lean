import Derived.Test.Qxb6604739aFmtRows
import Derived.WalkKit
import Derived.WalkSpells
import Derived.Laws.CopyOwn
import Derived.Laws.AppendOwnNone
import Derived.Lib.AppendStr
import Derived.Lib.Varint
namespace Go.Proofs.Qxb6604739aFmt
open Go.RowKit

/-- 'v' is a slice of bytes at the head of a row of its own (or nil): it holds the numbers 'L'. The row's number is 'v.ownBlock'. -/
def Own (w : World) (v : Value) (L : List Int) : Prop := w.ownsRow 0 5 1 v L.length (L.map (Value.int .u8))

theorem hide {p : Prop} (h : p) : Hid p := h

theorem own_nil (w : World) : Own w (.slice none 0 0) [] := World.ownsRow_nil w 0 5 1

theorem Own.kept {w w' : World} {v : Value} {L : List Int} {row : Option Nat} (h : Own w v L) (hg : w.grownBy w' row) (hne : v.ownBlock = none ∨ v.ownBlock ≠ row) : Own w' v L := World.ownsRow.kept h hg hne

theorem Own.lt {w : World} {v : Value} {L : List Int} (h : Own w v L) : ∀ k, v.ownBlock = some k → k < w.heap.size := fun k hk => (World.ownsRow.lt h k hk).2

theorem Own.form {w : World} {v : Value} {L : List Int} (h : Own w v L) :
    (v = .slice none 0 0 ∧ L = []) ∨ ∃ g cap, v = .slice (some ⟨g, 0, none⟩) L.length cap ∧ L.length ≤ cap ∧ cap ≤ maxLen ∧ ∀ j, j < L.length → w.cell? ⟨g, j, none⟩ = some (.int .u8 (L.getD j 0)) := by
  have hc := @World.ownsRow.cells _ _ _ _ _ _ _ h
  obtain ⟨_, h2⟩ := h
  rcases h2 with ⟨rfl, hl⟩ | ⟨g, cap, cur, rfl, _, _, hn, hm, _, _⟩
  · exact .inl ⟨rfl, List.eq_nil_of_length_eq_zero hl⟩
  · refine .inr ⟨g, cap, rfl, hn, hm, fun j hj => ?_⟩
    have := hc (g := g) rfl j (.int .u8 (L.getD j 0)) (by simp [hj, List.getD])
    rw [Addr.add_lit, Nat.zero_add] at this; exact this

theorem Own.slice {w : World} {v : Value} {L : List Int} (h : Own w v L) :
    ∃ ao c, v = .slice ao L.length c ∧ (ao = none → L.length = 0 ∧ c = 0) ∧ L.length ≤ c ∧ c ≤ maxLen ∧ ∀ ad, ao = some ad → (∃ g, ad = ⟨g, 0, none⟩) ∧ ∀ j, j < L.length → w.cell? (ad.add j) = some (.int .u8 (L.getD j 0)) := by
  rcases h.form with ⟨rfl, rfl⟩ | ⟨g, cap, rfl, h1, h2, h3⟩
  · exact ⟨none, 0, rfl, fun _ => ⟨rfl, rfl⟩, Nat.le_refl _, by unfold maxLen; omega, fun ad h => by cases h⟩
  · refine ⟨some ⟨g, 0, none⟩, cap, rfl, (fun h => by cases h), h1, h2, fun ad h => ?_⟩
    cases h
    exact ⟨⟨g, rfl⟩, fun j hj => by rw [Addr.add_lit, Nat.zero_add]; exact h3 j hj⟩

theorem Own.isSlice {w : World} {v : Value} {L : List Int} (h : Own w v L) : ∃ a n c, v = .slice a n c := by
  obtain ⟨a, c, h, _⟩ := h.slice
  exact ⟨a, _, c, h⟩

theorem none_or (r : Option Nat) : r = none ∨ r ≠ none := by cases r <;> simp

theorem grownBy_trans {w w1 w2 : World} {r r2 : Option Nat} (h : w.grownBy w1 r) (k : w1.grownBy w2 r2) (hr : ∀ b, r2 = some b → b < w.heap.size → r = some b) : w.grownBy w2 r :=
  ⟨k.os.trans h.os, k.tape.trans h.tape, k.output.trans h.output, Nat.le_trans h.size k.size, fun b hb hne =>
    (k.block b (Nat.lt_of_lt_of_le hb h.size) (fun e => hne (hr b e.symm hb).symm)).trans (h.block b hb hne)⟩

theorem grownBy_below {w w' : World} {r : Option Nat} (h : w.grownBy w' r) {B : Nat} (hB : B ≤ w.heap.size) (hr : ∀ k, r = some k → B ≤ k) : Below B w w' := (Below.refl B w).grown h hB hr

theorem below_grownBy {w w' : World} (h : Below w.heap.size w w') (r : Option Nat) : w.grownBy w' r := ⟨h.os, h.tape, h.output, h.size, fun k hk _ => h.block k hk⟩

theorem getD_of_map {N : List Int} {j : Nat} {u : Value} (h : (N.map (Value.int .u8))[j]? = some u) : j < N.length ∧ u = .int .u8 (N.getD j 0) := by
  simp only [List.getElem?_map, Option.map_eq_some_iff] at h
  obtain ⟨z, hz, rfl⟩ := h
  have hj := (List.getElem?_eq_some_iff.1 hz).1
  exact ⟨hj, by simp [List.getD, hz]⟩

/-- 'append(s, x...)' on bytes: what comes back owns both; the row is s's own, or a new one. -/
theorem wpList_append_bytes {P : Program} (w : World) {ops : Array Oper} {rest : List Oper} {o : Oper} {a : Act} {Q : Exit → Act → World → Prop}
    (hg : o.guard = none) (s x : Operand) (t : TypeId) (hop : o.op = Op.call { callee := Callee.builtin Builtin.append, args := #[s, x], argTypes := #[t, t] })
    (ht : P.underlying t = some (.slice 5)) (hinfo : (P.info? 5).map (fun i => (i.zero, i.size, i.bytes)) = some (some (.int .u8 0), 1, 1))
    (v : Value) (L : List Int) (hs : a.eval s = v) (hown : Own w v L) (ao : Option Addr) (m c : Nat) (N : List Int) (hx : a.eval x = .slice ao m c) (hm : N.length = m) (hnone : ao = none → m = 0 ∧ c = 0)
    (hc : ∀ ad, ao = some ad → ∀ j, j < m → w.cell? (ad.add j) = some (.int .u8 (N.getD j 0))) (hb : L.length + m ≤ 1099511627776)
    (hK : ∀ v' w', Own w' v' (L ++ N) → w.grownBy w' v.ownBlock → (∀ k, v'.ownBlock = some k → v.ownBlock = some k ∨ w.heap.size ≤ k) → wpList P ops Q rest (a.put o.dst v') w') :
    wpList P ops Q (o :: rest) a w := by
  obtain ⟨i0, hi, hz0, hz1, hz2⟩ := info_parts hinfo
  cases ao with
  | none =>
    obtain ⟨rfl, rfl⟩ := hnone rfl
    obtain rfl : N = [] := List.eq_nil_of_length_eq_zero hm
    refine wpList_append_own_none hg s x t hop 0 5 i0 1 ht hi v L.length _ hs hown hx ?_
    exact hK v w (by simpa using hown) (World.grownBy.refl _ _) (fun k hk => .inl hk)
  | some ad =>
    have hnews : ∀ j u, (N.map (Value.int .u8))[j]? = some u → w.cell? (ad.add j) = some u := fun j u hu => by
      obtain ⟨hj, rfl⟩ := getD_of_map hu
      exact hc ad rfl j (by omega)
    have hone := ints_oneCell .u8 N
    have hl : (N.map (Value.int .u8)).length = m * 1 := by simp [hm]
    have hmax : L.length + m ≤ maxLen := by unfold maxLen; omega
    have fin : ∀ {base n : Nat} {v' : Value} {w' : World}, w'.ownsRow base 5 1 v' n (L.map (Value.int .u8) ++ N.map (Value.int .u8)) → n = L.length + m → Own w' v' (L ++ N) := by
      intro base n v' w' h e
      subst e
      obtain ⟨h1, h2⟩ := h
      refine ⟨by simp, ?_⟩
      rw [List.length_append, hm, List.map_append]
      rcases h2 with ⟨e1, e2⟩ | ⟨g, cap, cur, h1, _, h3⟩
      · exact .inl ⟨e1, e2⟩
      · exact .inr ⟨g, cap, cur, h1, Nat.zero_le _, h3⟩
    have new : ∀ {n : Nat} {v' : Value} {w' : World} {xs : List Value}, w'.ownsRow w.heap.size 5 1 v' n xs → ∀ k, v'.ownBlock = some k → v.ownBlock = some k ∨ w.heap.size ≤ k :=
      fun h k hk => .inr (World.ownsRow.lt h k hk).1
    have toRow : ∀ {w' : World} {r : Option Nat}, w.grownBy w' none → w.grownBy w' r := fun h => ⟨h.os, h.tape, h.output, h.size, fun k hk _ => h.block k hk (by simp)⟩
    have hcells := @World.ownsRow.cells _ _ _ _ _ _ _ hown
    rcases hown.2 with ⟨rfl, hL⟩ | ⟨g, cap, cur, rfl, h1, h2, h3, h4, h5, h6⟩
    · obtain rfl : L = [] := List.eq_nil_of_length_eq_zero hL
      by_cases h0 : m = 0
      · subst h0
        obtain rfl : N = [] := List.eq_nil_of_length_eq_zero hm
        refine wpList_append_own w hg s x t hop w.heap.size 5 i0 (.int .u8 0) 1 1 ht hi hz0 hz1 hz2 rfl (by decide) _ 0 [] hs (World.ownsRow_nil _ _ _ _) ad 0 c [] hx rfl (by simp) (by simp) (by unfold maxLen; omega) (by omega) (Nat.le_refl _) ?_
        intro v' w' r1 r2 _
        exact hK v' w' (fin (by simpa using r1) (by simp)) r2 (new r1)
      · refine wpList_append_grows w hg s x t hop 5 i0 (.int .u8 0) 1 1 ht hi hz0 hz1 hz2 rfl (by decide) none 0 0 [] hs (fun _ => ⟨rfl, rfl⟩) rfl (by simp) ad m c _ hx hl hnews hone (by omega) (by simpa using hmax) (by simp at hb; omega) ?_
        intro v' w' r1 r2
        exact hK v' w' (fin (by simpa using r1) (by simp)) (toRow r2) (new r1)
    · by_cases hr : L.length + m ≤ cap
      · refine wpList_append_fits w hg s x t hop 0 5 i0 1 ht hi hz1 g L.length cap _ hs ⟨by simp, .inr ⟨g, cap, cur, rfl, h1, h2, h3, h4, h5, h6⟩⟩ ad m c _ hx hl hnews hone hr ?_
        intro w' r1 r2
        exact hK _ w' (fin r1 rfl) r2 (fun k hk => .inl hk)
      · refine wpList_append_grows w hg s x t hop 5 i0 (.int .u8 0) 1 1 ht hi hz0 hz1 hz2 rfl (by decide) (some ⟨g, 0, none⟩) L.length cap (L.map (Value.int .u8)) hs (by simp) (by simp) ?_ ad m c _ hx hl hnews hone (by omega) hmax (by omega) ?_
        · intro b hb' j u hj
          obtain rfl := Option.some.inj hb'
          exact hcells (g := g) rfl j u hj
        · intro v' w' r1 r2
          exact hK v' w' (fin r1 rfl) (toRow r2) (new r1)

/-- A string's bytes, as numbers. -/
def bs (s : ByteArray) : List Int := s.data.toList.map fun b => (b.toNat : Int)

theorem bs_length (s : ByteArray) : (bs s).length = s.size := by
  rw [bs, List.length_map, Array.length_toList]
  rfl

theorem bs_cells (s : ByteArray) : (bs s).map (Value.int .u8) = Lib.strCells s := by
  simp [bs, Lib.strCells, List.map_map, Function.comp_def]

/-- 'append(b, s...)', s a string: as 'wpList_append_bytes'. -/
theorem wpList_append_str {P : Program} (w : World) {ops : Array Oper} {rest : List Oper} {o : Oper} {a : Act} {Q : Exit → Act → World → Prop}
    (hg : o.guard = none) (sl x : Operand) (t u : TypeId) (ho : o.op = Op.call { callee := Callee.builtin Builtin.append, args := #[sl, x], argTypes := #[t, u] })
    (ht : P.underlying t = some (.slice 5)) (hu : P.underlying u = some .string) (hinfo : (P.info? 5).map (fun i => (i.zero, i.size, i.bytes)) = some (some (.int .u8 0), 1, 1))
    (v : Value) (L : List Int) (hs : a.eval sl = v) (hown : Own w v L) (s : ByteArray) (hx : a.eval x = .string s) (hb : L.length + s.size ≤ 1099511627776)
    (hK : ∀ v' w', Own w' v' (L ++ bs s) → w.grownBy w' v.ownBlock → (∀ k, v'.ownBlock = some k → v.ownBlock = some k ∨ w.heap.size ≤ k) → wpList P ops Q rest (a.put o.dst v') w') :
    wpList P ops Q (o :: rest) a w := by
  obtain ⟨i0, hi, hz0, hz1, hz2⟩ := info_parts hinfo
  obtain ⟨v', w', hr, h2, h3, h4⟩ := Lib.run_append_own_string (P := P) w 0 t u o.type 5 i0 ht hu hi hz0 hz1 hz2 v L.length _ hown s (by unfold maxLen; omega) (by omega) (Nat.zero_le _)
  have sharp : ∀ k, v'.ownBlock = some k → v.ownBlock = some k ∨ w.heap.size ≤ k := by
    intro k hk
    rcases hown.2 with ⟨rfl, hL⟩ | ⟨g, cap, cur, rfl, _, q2, q3, q4, q5, q6⟩
    · obtain ⟨v1, w1, hr1, h21, _, _⟩ := Lib.run_append_own_string (P := P) w w.heap.size t u o.type 5 i0 ht hu hi hz0 hz1 hz2 (.slice none 0 0) 0 [] (World.ownsRow_nil _ _ _ _) s (by unfold maxLen; omega) (by omega) (Nat.le_refl _)
      rw [hr] at hr1
      cases hr1
      exact .inr (World.ownsRow.lt h21 k hk).1
    · by_cases hroom : L.length + s.size ≤ cap
      · have hr1 := Lib.run_append_room_string (P := P) w t u o.type 5 i0 ht hu hi hz1 g L.length cap cur q2 s hroom (by omega)
        rw [hr] at hr1
        cases hr1
        exact .inl hk
      · have hr1 := Lib.run_append_grow_string (P := P) w t u o.type 5 i0 (.int .u8 0) ht hu hi hz0 ⟨g, 0, none⟩ L.length cap (L.map (Value.int .u8)) (by rw [hz1]; simp) (World.ownsRow.cells hown (g := g) rfl) s (by omega) (by omega) (by rw [hz2]; exact growslice_fits (by omega) (by omega))
        rw [hr] at hr1
        cases hr1
        cases hk
        exact .inr (Nat.le_refl _)
  have own' : Own w' v' (L ++ bs s) := by
    unfold Own
    rw [List.length_append, bs_length, List.map_append, bs_cells]
    exact h2
  refine wpList_plain hg fun K hK' => ?_
  unfold Oper.wp execOp
  simp only [ho, resolve, invoke, builtin, Sem.run_bind, Sem.run_pure, Result.andThen_ok, List.map_toArray, List.map_cons, List.map_nil, hs, hx, hr]
  exact hK' _ _ (hK v' w' own' h3 sharp)

theorem Tryf.info5 : (Tryf.prog.info? 5).map (fun i => (i.zero, i.size, i.bytes)) = some (some (.int .u8 0), 1, 1) := by kernel_rfl

/-! ### The encoder: a box that holds a slice of bytes of the call's own -/

/-- the box 'be' holds the slice 'v', which holds 'L' -/
structure Enc (be : Nat) (w : World) (v : Value) (L : List Int) : Prop where
  box : w.heap[be]? = some (.cells #[v] 54 (0, 0))
  own : Own w v L
  ne : v.ownBlock ≠ some be

/-- from 'w' (the box holds v) to 'w'' (it holds v'): of what was there only the box and v's row may have turned -/
structure Step (be : Nat) (w : World) (v : Value) (w' : World) (v' : Value) : Prop where
  os : w'.os = w.os
  tape : w'.tape = w.tape
  output : w'.output = w.output
  size : w.heap.size ≤ w'.heap.size
  block : ∀ k, k < w.heap.size → k ≠ be → v.ownBlock ≠ some k → w'.heap[k]? = w.heap[k]?
  own : ∀ k, v'.ownBlock = some k → v.ownBlock = some k ∨ w.heap.size ≤ k

theorem Step.refl (be : Nat) (w : World) (v : Value) : Step be w v w v := ⟨rfl, rfl, rfl, Nat.le_refl _, fun _ _ _ _ => rfl, fun _ h => .inl h⟩

theorem Step.trans {be : Nat} {w w1 w2 : World} {v v1 v2 : Value} (h : Step be w v w1 v1) (k : Step be w1 v1 w2 v2) : Step be w v w2 v2 :=
  ⟨k.os.trans h.os, k.tape.trans h.tape, k.output.trans h.output, Nat.le_trans h.size k.size,
    fun b hb h1 h2 => (k.block b (Nat.lt_of_lt_of_le hb h.size) h1 (fun e => (h.own b e).elim h2 (by omega))).trans (h.block b hb h1 h2),
    fun b hb => (k.own b hb).elim (h.own b) (fun hle => .inr (Nat.le_trans h.size hle))⟩

theorem Step.alloc {be : Nat} {w w1 : World} {v v1 : Value} (h : Step be w v w1 v1) (o : Obj) : Step be w v (w1.alloc o) v1 :=
  ⟨h.os, h.tape, h.output, by have := h.size; simp; omega, fun b hb h1 h2 => (Below.heap_alloc _ _ _ (by have := h.size; omega)).trans (h.block b hb h1 h2), h.own⟩

theorem Step.drew {be : Nat} {w w1 : World} {v v1 : Value} (h : Step be w v w1 v1) : Step be w v w1.drew v1 := ⟨h.os, h.tape, h.output, h.size, h.block, h.own⟩

/-- a cell of a block that is neither the box nor v's row reads as it did -/
theorem Step.cell {be : Nat} {w w' : World} {v v' : Value} (h : Step be w v w' v') {p : Addr} {u : Value} (hc : w.cell? p = some u) (h1 : p.block ≠ be) (h2 : v.ownBlock ≠ some p.block) : w'.cell? p = some u :=
  (World.cell?_of_block (h.block p.block (World.block_lt_of_cell? w p hc) h1 h2)).trans hc

theorem Step.below {be : Nat} {w w' : World} {v v' : Value} (h : Step be w v w' v') {B : Nat} (hB : B ≤ w.heap.size) (h1 : B ≤ be) (h2 : ∀ k, v.ownBlock = some k → B ≤ k) : Below B w w' :=
  ⟨h.os, h.tape, h.output, h.size, fun k hk => h.block k (by omega) (by omega) (fun e => by have := h2 k e; omega)⟩

theorem Enc.lt {be : Nat} {w : World} {v : Value} {L : List Int} (h : Enc be w v L) : be < w.heap.size := by
  rcases Nat.lt_or_ge be w.heap.size with h1 | h1
  · exact h1
  · have := h.box
    rw [Array.getElem?_eq_none h1] at this
    cases this

theorem Enc.cell {be : Nat} {w : World} {v : Value} {L : List Int} (h : Enc be w v L) : w.cell? ⟨be, 0, none⟩ = some v := cell_of_one h.box

theorem Enc.frozen {be : Nat} {w : World} {v : Value} {L : List Int} (h : Enc be w v L) : w.frozen? ⟨be, 0, none⟩ = false := free_of_one h.box

theorem Enc.alloc {be : Nat} {w : World} {v : Value} {L : List Int} (h : Enc be w v L) (o : Obj) : Enc be (w.alloc o) v L :=
  ⟨(Below.heap_alloc _ _ _ h.lt).trans h.box, h.own.kept (World.grownBy_alloc w o none) (none_or _), h.ne⟩

/-- an append onto the slice in the box, stored back into the box -/
theorem Enc.put {be : Nat} {w w1 : World} {v v1 : Value} {L M : List Int} (h : Enc be w v L) (ho : Own w1 v1 M) (hg : w.grownBy w1 v.ownBlock) (hn : ∀ k, v1.ownBlock = some k → v.ownBlock = some k ∨ w.heap.size ≤ k) :
    Enc be (w1.setCell ⟨be, 0, none⟩ v1) v1 M ∧ Step be w v (w1.setCell ⟨be, 0, none⟩ v1) v1 := by
  have hlt := h.lt
  have hne : v1.ownBlock ≠ some be := fun e => (hn be e).elim h.ne (by omega)
  have hbox1 : w1.heap[be]? = some (.cells #[v] 54 (0, 0)) := (hg.block be hlt (fun e => h.ne e.symm)).trans h.box
  refine ⟨⟨one_setCell hbox1, ?_, hne⟩, ?_⟩
  · refine ho.kept (row := some be) ⟨rfl, rfl, rfl, by simp [World.setCell], fun k _ hk => Below.heap_setCell _ _ _ _ (fun e => hk (by rw [e]))⟩ (.inr hne)
  · exact ⟨hg.os, hg.tape, hg.output, by have := hg.size; simp [World.setCell]; omega, fun k hk h1 h2 => (Below.heap_setCell _ _ _ _ h1).trans (hg.block k hk (fun e => h2 e.symm)), hn⟩

/-- x in groups of seven bits, the least first -/
def uv (x : Nat) : List Int := (Lib.uvarint x).map fun b => (b.toNat : Int)

theorem uv_small {x : Nat} (h : x < 128) : uv x = [(x : Int)] := by
  have : x.toUInt8.toNat = x := by simp; omega
  simp [uv, Lib.uvarint_small h, this]

theorem uv_big {x : Nat} (h : 128 ≤ x) : uv x = ((x % 128 + 128 : Nat) : Int) :: uv (x / 128) := by
  have : (x % 128 + 128).toUInt8.toNat = x % 128 + 128 := by simp; omega
  rw [uv, Lib.uvarint_big h, List.map_cons, this]
  rfl

theorem uv_length {x : Nat} (h : x < 2097152) : (uv x).length ≤ 3 := by
  rw [uv, List.length_map]
  exact Lib.uvarint_length 2 x (by simpa using h)

theorem uv_pos (x : Nat) : 1 ≤ (uv x).length := by rw [uv, List.length_map]; exact Lib.uvarint_pos x

end Go.Proofs.Qxb6604739aFmt
