import Derived.Test.Qxb6604739aFmtShift2
import Derived.Test.Qxb6604739aFmtTests
import Derived.Deep.RegionWith
namespace Go.Proofs.Qxb6604739aFmt
open Go.RowKit

/-- the decoder in bd has still to read M; of what was there in w0 nothing has turned -/
def DI (w0 : World) (bd g : Nat) (w : World) (M : List Int) : Prop := (∃ a c, Dec bd g w a c M) ∧ Below w0.heap.size w0 w ∧ M.length ≤ 268435456

theorem DI.drew {w0 : World} {bd g : Nat} {w : World} {M : List Int} (h : DI w0 bd g w M) : DI w0 bd g w.drew M := by
  obtain ⟨⟨a, c, d⟩, b, l⟩ := h
  exact ⟨⟨a, c, ⟨d.box, d.le, d.max, d.ne, d.cells⟩⟩, b.drew, l⟩

theorem DI.cell {w0 : World} {bd g : Nat} {w : World} {M : List Int} (h : DI w0 bd g w M) {p : Addr} {v : Value} (hc : w0.cell? p = some v) : w.cell? p = some v := cell_later h.2.1 hc

theorem DI.to {w0 : World} {bd g : Nat} {w w' : World} {N M : List Int} (h : DI w0 bd g w (N ++ M)) (hbd : w0.heap.size ≤ bd) (d : DecTo bd g w w' M) : DI w0 bd g w' M := by
  obtain ⟨_, b, l⟩ := h
  obtain ⟨a, c, d, gr⟩ := d
  rw [List.length_append] at l
  exact ⟨⟨a, c, d⟩, b.grown gr b.size (fun k hk => by cases hk; exact hbd), by omega⟩

set_option maxRecDepth 100000 in
theorem zzString_any (w0 : World) (bd g : Nat) (s : ByteArray) (M : List Int) (w : World) (h : DI w0 bd g w (es s ++ M)) (hbd : w0.heap.size ≤ bd) (hs : s.size ≤ 1048576) :
    Calls Tryf.prog 16 #[.pointer (some ⟨bd, 0, none⟩)] w fun e w' => e = .returned (.string s) ∧ DI w0 bd g w' M := by
  have H := hide h
  clear h
  go_enter Tryf.func16, Tryf.ntmps16
  go_wp2_with fail
  obtain ⟨a, c, d⟩ := H.out.1
  refine (decString_any bd g c s a M w d hs H.out.2.2).mono ?_
  rintro e w1 ⟨rfl, D⟩
  have HD := hide (H.out.to hbd D)
  clear D d
  go_wp2
  go_ret
  exact ⟨rfl, HD.out⟩

set_option maxRecDepth 100000 in
theorem zzUint_any (w0 : World) (bd g x : Nat) (M : List Int) (w : World) (h : DI w0 bd g w (uv x ++ M)) (hbd : w0.heap.size ≤ bd) (hx : x < 2097152) :
    Calls Tryf.prog 17 #[.pointer (some ⟨bd, 0, none⟩)] w fun e w' => e = .returned (.int .i64 x) ∧ DI w0 bd g w' M := by
  have H := hide h
  clear h
  go_enter Tryf.func17, Tryf.ntmps17
  go_wp2_with fail
  obtain ⟨a, c, d⟩ := H.out.1
  refine (decUint_any bd g x c a M w d hx H.out.2.2).mono ?_
  rintro e w1 ⟨rfl, D⟩
  have HD := hide (H.out.to hbd D)
  clear D d
  go_wp2
  go_ret
  exact ⟨rfl, HD.out⟩

theorem zzOK_any (w0 : World) (bd g : Nat) (M : List Int) (w : World) (h : DI w0 bd g w M) :
    Calls Tryf.prog 18 #[.pointer (some ⟨bd, 0, none⟩)] w fun e w' => e = .returned (.bool true) ∧ w = w' := by
  obtain ⟨⟨a, c, d⟩, _, _⟩ := h
  have q := d.c1
  clear d
  go_enter Tryf.func18, Tryf.ntmps18
  go_wp2
  go_ret
  exact ⟨rfl, rfl⟩

theorem zzLeft_any (w0 : World) (bd g : Nat) (w : World) (h : DI w0 bd g w []) :
    Calls Tryf.prog 19 #[.pointer (some ⟨bd, 0, none⟩)] w fun e w' => e = .returned (.int .i64 0) ∧ w = w' := by
  obtain ⟨⟨a, c, d⟩, _, _⟩ := h
  have q := d.c0
  clear d
  go_enter Tryf.func19, Tryf.ntmps19
  go_wp2
  go_ret
  exact ⟨rfl, rfl⟩

theorem newDecoder_any (a : Option Addr) (n c : Nat) (w : World) :
    Calls Tryf.prog 15 #[.slice a n c] w fun e w' => e = .returned (.pointer (some ⟨w.heap.size, 0, none⟩)) ∧ w.alloc (.cells #[.slice a n c, .nilIface] 65) = w' := by
  go_enter Tryf.func15, Tryf.ntmps15
  go_wp2
  go_ret
  exact ⟨rfl, rfl⟩

set_option maxRecDepth 100000 in
set_option maxHeartbeats 3200000 in
theorem bytes11_any (ap : Option Addr) (cp : Nat) (l : Lv) (w : World) (hp : ProvIn w ap cp l.arcs) :
    Calls Tryf.prog 11 #[.string l.peer, .string l.frm, .string l.to, .string l.pp, .string l.pf, .slice ap l.arcs.length cp, .string l.bf, .string l.bt, .string l.bp] w fun e w' => IsBool e ∧ w = w' := by
  have HP := hide hp.2
  clear hp
  go_enter Tryf.func11, Tryf.ntmps11
  go_wp2
  any_goals (go_ret; exact ⟨isBool _, rfl⟩)
  go_loop [19, 20] (fun z i => ∃ (k : Nat) (y : Int), k ≤ l.arcs.length ∧ i = .int .i64 k ∧ 0 ≤ y ∧ y ≤ 1048576 ∧ z = .int .i64 y) (fun _ i => l.arcs.length - (intOf i).toNat)
  case atStart => exact ⟨0, _, Nat.zero_le _, rfl, by omega, by omega, rfl⟩
  case round =>
    obtain ⟨k, y, hk, rfl, hy0, hy1, rfl⟩ := hrel
    by_cases hlt : k < l.arcs.length
    · obtain ⟨b, o, rfl, q0, q1⟩ := HP.out (by omega)
      have c0 := q0 k hlt
      have c1 := q1 k hlt
      obtain ⟨p, Hp⟩ : ∃ p, Hid (nth l.arcs k = p) := ⟨_, rfl⟩
      rw [Hp.out] at c0 c1
      clear q0 q1 HP
      go_wp2
      any_goals (go_ret; exact ⟨isBool _, rfl⟩)
      go_round
      case rel => exact ⟨k + 1, _, by omega, by go_num, by omega, by omega, rfl⟩
      case measure => simp [intOf]; omega
    · go_wp2
      all_goals (go_ret; exact ⟨isBool _, rfl⟩)

end Go.Proofs.Qxb6604739aFmt
