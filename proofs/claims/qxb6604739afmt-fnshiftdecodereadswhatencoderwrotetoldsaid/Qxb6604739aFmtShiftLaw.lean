import Derived.Test.Qxb6604739aFmtShift2
namespace Go.Proofs.Qxb6604739aFmt
open Go.RowKit

/-- bytes that came in -/
def PreIn (w : World) (a0 : Option Addr) (L : List Int) : Prop :=
  0 < L.length → ∃ b o, a0 = some ⟨b, o, none⟩ ∧ ∀ j, j < L.length → w.cell? ⟨b, o + j, none⟩ = some (.int .u8 (L.getD j 0))

theorem take_succ (T : List Int) (k : Nat) (h : k < T.length) : T.take (k + 1) = T.take k ++ [T.getD k 0] := by
  rw [List.take_succ_eq_append_getElem h]
  simp [List.getD, h]

set_option maxRecDepth 100000 in
set_option maxHeartbeats 3200000 in
theorem shift_law (p f t p0 f0 t0 : ByteArray) (a3 : Option Addr) (c3 : Nat) (T : List Int) (w : World) (hT : PreIn w a3 T) :
    Calls Tryf.prog 5 #[.string p, .string f, .string t, .slice a3 T.length c3, .string p0, .string f0, .string t0] w fun e w' => e = .returned (.bool true) ∧ Below w.heap.size w w' := by
  have HT := hide hT
  have hinfo := Tryf.info5
  clear hT
  go_enter Tryf.func5, Tryf.ntmps5
  go_wp2_with fail
  refine (bytes20_any p f t a3 _ c3 p0 f0 t0 w).mono ?_
  rintro e w' ⟨⟨r, rfl⟩, rfl⟩
  cases r with
  | false =>
    go_wp2
    go_ret
    exact ⟨rfl, Below.refl _ _⟩
  | true =>
    go_wp2_with fail
    any_goals (go_ret; exact ⟨rfl, Below.refl _ _⟩)
    have hbd : p.size ≤ 1048576 ∧ f.size ≤ 1048576 ∧ t.size ≤ 1048576 ∧ T.length ≤ 1048576 := by omega
    obtain ⟨hp, hf, ht, hTl⟩ := hbd
    have kp := es_le p hp
    have kf := es_le f hf
    have kt := es_le t ht
    refine (encString_any w.heap.size (.slice none 0 0) [] p w (own_nil _) (Nat.le_refl _) (fun k hk => by cases hk) (by simp) hp).mono ?_
    rintro e w1 ⟨v1, rfl, o1, b1, n1⟩
    rw [List.nil_append] at o1
    have O1 := hide o1
    have N1 := hide n1
    have B1 := hide b1
    clear o1 n1 b1
    go_wp2_with fail
    refine (encString_any w.heap.size v1 _ f w1 O1.out B1.out.size N1.out (by omega) hf).mono ?_
    rintro e w2 ⟨v2, rfl, o2, b2, n2⟩
    have O2 := hide o2
    have N2 := hide n2
    have B2 := hide (B1.out.trans b2)
    clear o2 n2 b2
    go_wp2_with fail
    refine (encString_any w.heap.size v2 _ t w2 O2.out B2.out.size N2.out (by rw [List.length_append]; omega) ht).mono ?_
    rintro e w3 ⟨v3, rfl, o3, b3, n3⟩
    have O3 : Hid (Own w3 v3 (es p ++ (es f ++ es t))) := by rw [List.append_assoc] at o3; exact o3
    have N3 := hide n3
    have B3 := hide (B2.out.trans b3)
    clear o3 n3 b3 O1 O2 N1 N2 B1 B2
    have hL3 : (es p ++ (es f ++ es t)).length ≤ 3145737 := by simp only [List.length_append]; omega
    go_wp2
    go_loopw [15, 16] (fun vb i wr => ∃ k : Nat, k ≤ T.length ∧ i = .int .i64 k ∧ Hid (Own wr vb (es p ++ (es f ++ es t) ++ T.take k)) ∧ Hid (∀ b, vb.ownBlock = some b → w.heap.size ≤ b) ∧ Hid (Below w.heap.size w wr)) (fun _ i _ => T.length - (intOf i).toNat)
    case atStart => exact ⟨0, Nat.zero_le _, rfl, hide (by simpa using O3.out), N3, B3⟩
    case round =>
      obtain ⟨k, hk, rfl, OK, NK, BK⟩ := hrel
      by_cases hlt : k < T.length
      · obtain ⟨b, o, rfl, q⟩ := HT.out (by omega)
        have d0 : wr.cell? ⟨b, o + k, none⟩ = some (.int .u8 (T.getD k 0)) := cell_later BK.out (q k hlt)
        have hlt' : (k : Int) < (T.length : Int) := by omega
        obtain ⟨x, Hx⟩ : ∃ x, Hid (T.getD k 0 = x) := ⟨_, rfl⟩
        rw [Hx.out] at d0
        clear q
        go_wp2_with (at_builtin; refine wpList_append_bytes _ rfl (.tmp 96) (.tmp 101) 23 rfl Tryf.underlying23 hinfo _ _ rfl (OK.out.kept (World.grownBy_alloc _ _ none) (none_or _)) (some ⟨wr.heap.size, 0, none⟩) 1 1 [x] rfl rfl ?a1 ?a2 ?a3 ?_)
        case a1 => simp
        case a2 =>
          intro ad h j hj
          cases h
          match j, hj with
          | 0, _ => simp [Addr.add]
        case a3 => simp only [List.length_append, List.length_take] at hL3 ⊢; omega
        intro v' w4 r1 r2 r3
        have R1 := hide r1
        have R2 := hide r2
        have R3 := hide r3
        clear r1 r2 r3
        go_wp2
        go_roundw
        case rel =>
          have hsz := BK.out.size
          refine ⟨k + 1, by omega, by go_num, ?_, ?_, ?_⟩
          · have h := R1.out
            show Own _ _ _
            rw [take_succ T k hlt, Hx.out]
            simp only [List.append_assoc] at h ⊢
            exact h
          · intro b' hb'
            rcases R3.out b' hb' with h | h
            · exact NK.out b' h
            · omega
          · exact (BK.out.alloc hsz _).grown R2.out (by simp; omega) NK.out
        case measure => simp [intOf]; omega
      · obtain rfl : k = T.length := by omega
        have OK2 : Own wr u15 (es p ++ (es f ++ (es t ++ T))) := by have h := OK.out; rw [List.take_length, List.append_assoc, List.append_assoc] at h; exact h
        have hup := uv_pos p.size
        have hpl : 0 < (es p ++ (es f ++ (es t ++ T))).length := by rw [List.length_append, es, List.length_append]; omega
        obtain ⟨g, cap, rfl, hl1, hl2, hg, hown, hat⟩ := OK2.head hpl
        have hgB : w.heap.size ≤ g := NK.out g hown
        have hsz := BK.out.size
        have hM : (es p ++ (es f ++ (es t ++ T))).length ≤ 268435456 := by simp only [List.length_append] at hL3 ⊢; omega
        have hb5 : Below wr.heap.size wr (wr.alloc (.cells #[.string p0, .string f0, .string t0] 48)) := (Below.refl _ _).alloc (Nat.le_refl _) _
        have HAT : Hid (At (wr.alloc (.cells #[.string p0, .string f0, .string t0] 48)) g 0 (es p ++ (es f ++ (es t ++ T)))) := hat.later hb5
        have HSH : Hid (Sh (wr.alloc (.cells #[.string p0, .string f0, .string t0] 48)) wr.heap.size p0 f0 t0) := heap_alloc_new wr _
        have HB5 : Hid (Below w.heap.size w (wr.alloc (.cells #[.string p0, .string f0, .string t0] 48))) := BK.out.alloc hsz _
        have HM := hide hM
        have HL1 := hide hl1
        have HL2 := hide hl2
        obtain ⟨n, Hn⟩ : ∃ n, Hid ((es p ++ (es f ++ (es t ++ T))).length = n) := ⟨_, rfl⟩
        rw [Hn.out]
        clear OK2 OK hat hM hl1 hl2 hown hb5 hpl
        go_wp2_with fail
        have hcall := decodeShift_any g wr.heap.size cap p0 f0 t0 p f t T (wr.alloc (.cells #[.string p0, .string f0, .string t0] 48)) HL1.out HL2.out (by simp; omega) HAT.out HSH.out (by omega) hp hf ht HM.out
        rw [Hn.out] at hcall
        refine hcall.mono ?_
        clear hcall
        rintro e w6 ⟨⟨ar, cr, rfl, hrest⟩, hsh, hgr⟩
        have m0 := hsh.cells.1
        have m1 := hsh.cells.2.1
        have m2 := hsh.cells.2.2
        have hB6 : Below w.heap.size w w6 := HB5.out.trans (hgr.below (by simp; omega) (fun r hr => by simp at hr; omega))
        have HB6 := hide hB6
        have HR := hide hrest
        clear hsh hgr hB6 hrest
        go_wp2_with fail
        refine (eq_any (some ar) a3 _ cr c3 T w6 (by omega) ?e1).mono ?_
        case e1 =>
          intro h0
          obtain ⟨b, o, rfl, q⟩ := HT.out h0
          obtain ⟨pr, rfl, hatr⟩ := HR.out h0
          exact ⟨g, pr, b, o, rfl, rfl, hatr, fun i hi => cell_later HB6.out (q i hi)⟩
        rintro e w7 ⟨rfl, m7, rfl⟩
        go_wp2
        go_ret
        exact ⟨rfl, HB6.out.trans ((below_drewN ⟨_, rfl⟩).mono HB6.out.size)⟩
end Go.Proofs.Qxb6604739aFmt
