/-
  THE LAW's OWN WALK (6): out of the callees' contracts.
-/
import Derived.Test.Qxb6001671aWalks
namespace Go.Proofs.Qxb6001671a
open Go.ChangeShapes Go.WideShapes Go.ChangeAt Go.RowKit
open Plain

/-- 'string(b)': what an owned row of bytes reads as. -/
theorem to_string {w : World} {base : Nat} {v : Value} {l : List UInt8} (h : w.ownsRow base 5 1 v l.length (bc l)) (hp : 0 < l.length) :
    (convert 27 9 v).run Try.prog w = .ok (.string ⟨l.toArray⟩) w := by
  rcases h.2 with ⟨_, h0⟩ | ⟨g, cap, cur, rfl, _⟩
  · omega
  · refine run_convert_bytes_back (P := Try.prog) w 27 9 5 ⟨g, 0, none⟩ cap l Try.underlying27 Try.underlying5 Try.underlying9 (fun j hj => ?_)
    rw [Addr.add_lit, Nat.zero_add, h.cellAt j (by omega)]
    simp [bc, hj]

theorem size_mk (l : List UInt8) : (ByteArray.mk l.toArray).size = l.length := rfl

theorem at_mk {l : List UInt8} {k : Nat} {b : UInt8} (h : l[k]? = some b) : ∃ h' : k < (ByteArray.mk l.toArray).size, (ByteArray.mk l.toArray)[k] = b := by
  obtain ⟨hk, he⟩ := List.getElem?_eq_some_iff.1 h
  exact ⟨hk, he⟩

/-- 'QuoteEnd' on the text that the law builds. -/
theorem quoteEnd_text (p : List UInt8) (q : UInt8) (l : List UInt8) (w : World) (hp : p.length ≤ 1048576) (hl : l.length ≤ 1048576) :
    Calls Try.prog 22 #[.string ⟨(text p q l).toArray⟩, .int .i64 (p.length : Int)] w fun e w' => e = .returned (.tuple #[.int .i64 0, .bool false, .bool false]) ∧ w' = w := by
  have hsz : (text p q l).length ≤ 4194304 := by
    have := esc_length q l
    simp only [text, List.length_append, List.length_singleton]
    omega
  obtain ⟨h1, h2⟩ := at_mk (text_quote p q l)
  refine quoteEnd_unclosed ⟨(text p q l).toArray⟩ p.length l.length (place p q l) q w (by rw [size_mk]; exact hsz) h1 h2 (place_zero p q l) (by rw [size_mk, text_length]) ?_
  intro m hm
  rcases Plain.step p q l m hm with ⟨b, hb, hne, hn⟩ | ⟨ha, hb, hn⟩
  · obtain ⟨k1, k2⟩ := at_mk hb
    exact ⟨k1, .inl ⟨by rw [k2]; exact hne, hn⟩⟩
  · obtain ⟨k1, k2⟩ := at_mk ha
    exact ⟨k1, .inr ⟨k2, at_mk hb, hn⟩⟩

theorem strCells_bc (s : ByteArray) : Lib.strCells s = bc s.data.toList := rfl

set_option maxRecDepth 100000 in
set_option maxHeartbeats 1000000 in
theorem rest_walk (a0 : ByteArray) (q : UInt8) (a2 : ByteArray) (h : a0.size + a2.size ≤ 1048576) (w : World) :
    Calls Try.prog 6 #[.string a0, .int .u8 (q.toNat : Int), .string a2] w fun e w' => e = .returned (.bool true) ∧ Below w.heap.size w w' := by
  have hb0 : ¬ (1048576 : Int) < (a0.size : Int) := by omega
  have hb2 : ¬ (1048576 : Int) < (a2.size : Int) := by omega
  have hb3 : ¬ (1048576 : Int) < (a0.size : Int) + (a2.size : Int) := by omega
  obtain ⟨i0, hi, hz0, hz1, hz2⟩ := info_parts info5
  have HL0 : Hid (a0.data.toList.length = a0.size) := by unfold Hid; simp
  have HL2 : Hid (a2.data.toList.length = a2.size) := by unfold Hid; simp
  go_enter Try.func6, Try.ntmps6
  go_wp2_with fail
  refine (bytes_any a0 _ a2 w (by unfold maxLen; omega) (by unfold maxLen; omega)).mono ?_
  rintro e w' ⟨⟨t, rfl⟩, rfl⟩
  cases t
  · go_wp2_with fail
    go_ret
    exact ⟨rfl, Below.refl _ _⟩
  go_wp2_with (at_make; (refine wpList_make_own _ rfl _ _ 27 rfl w'.heap.size 5 i0 _ 1 Try.underlying27 hi hz0 hz1 _ _ _ (a0.size + 2 * a2.size + 1) rfl rfl (by omega) (by rw [hz2]; omega) (by unfold maxLen; omega) (Nat.le_refl _) ?_))
  intro w1 hown hgrow
  have hb1 : Below w'.heap.size w' w1 := (Below.refl _ _).grown hgrow (Nat.le_refl _) (fun k h => by cases h)
  have hsz1 := hb1.size
  clear hgrow
  go_wp2_with (at_builtin; (refine Lib.wpList_append_own_string _ rfl (.tmp 38) (.tmp 39) 27 9 rfl w'.heap.size 5 i0 Try.underlying27 Try.underlying9 hi hz0 hz1 hz2 _ _ _ rfl hown a0 rfl ?_ ?_ ?_ ?_))
  · unfold maxLen; omega
  · omega
  · exact hsz1
  intro v2 w2 hown2 hgrow2 _
  have hB2 : Below w'.heap.size w' w2 := hb1.grown hgrow2 hsz1 (fun j hj => (hown.lt j hj).1)
  have hsz2 := hB2.size
  clear hown hgrow2 hb1 hsz1
  rw [strCells_bc] at hown2
  go_wp2_with (at_builtin; (refine wpList_append_own _ rfl (.tmp 41) (.tmp 43) 27 rfl w'.heap.size 5 i0 _ 1 1 Try.underlying27 hi hz0 hz1 hz2 rfl (by decide) _ _ _ rfl (hown2.alloc _) ⟨w2.heap.size, 0, none⟩ 1 1 [.int .u8 (q.toNat : Int)] rfl rfl ?_ ?_ ?_ ?_ ?_ ?_))
  · exact cell_one_new _ _ _
  · intro u hu
    simp only [List.mem_cons, List.not_mem_nil, or_false] at hu
    subst hu
    rfl
  · unfold maxLen; omega
  · omega
  · simp; omega
  intro v3 w3 hown3 hgrow3 _
  have hB3 : Below w'.heap.size w' w3 := (hB2.alloc hsz2 _).grown hgrow3 (by simp; omega) (fun j hj => (hown2.lt j hj).1)
  have hsz3 := hB3.size
  have ho3 : w3.ownsRow w'.heap.size 5 1 v3 (a0.data.toList ++ [q]).length (bc (a0.data.toList ++ [q])) := by
    rw [bc_append, bc_one, List.length_append, HL0.out]
    exact hown3
  have HE : Hid _ := escaped_any w'.heap.size v3 (a0.data.toList ++ [q]) q a2 w3 hsz3 ho3 (by rw [List.length_append, HL0.out]; simp; omega) (by omega)
  have HB3 : Hid _ := hB3
  clear hown2 hgrow3 hown3 ho3 hB2 hB3
  go_wp2_with fail
  refine Calls.mono HE.out ?_
  rintro e w4 ⟨v4, rfl, ho4, hb4⟩
  have HB4 : Hid _ := HB3.out.trans hb4
  have hts := to_string (l := text a0.data.toList q a2.data.toList) ho4 (by simp only [text, List.length_append, List.length_singleton]; omega)
  have HQ : Hid _ := quoteEnd_text a0.data.toList q a2.data.toList w4 (by rw [HL0.out]; omega) (by rw [HL2.out]; omega)
  rw [HL0.out] at HQ
  clear ho4 hb4 HE HB3
  go_wp2_with fail
  refine Calls.mono HQ.out ?_
  rintro e w5 ⟨rfl, rfl⟩
  clear HQ hts
  go_wp2_with fail
  go_ret
  exact ⟨rfl, HB4.out⟩

set_option maxRecDepth 100000 in
set_option maxHeartbeats 1000000 in
/-- The ways on which the law has nothing to say. -/
theorem idle_walk (a0 : ByteArray) (a1 : Int) (a2 : ByteArray) (w0 : a0.size ≤ maxLen) (w2 : a2.size ≤ maxLen) (h : 1048576 < a0.size + a2.size) (w : World) :
    Calls Try.prog 6 #[.string a0, .int .u8 a1, .string a2] w fun e w' => e = .returned (.bool true) ∧ Below w.heap.size w w' := by
  have HB : Hid _ := bytes_any a0 a1 a2 w w0 w2
  unfold maxLen at w0 w2
  go_enter Try.func6, Try.ntmps6
  go_wp2_with fail
  refine Calls.mono HB.out ?_
  rintro e w' ⟨⟨t, rfl⟩, rfl⟩
  cases t
  · go_wp2_with fail
    go_ret
    exact ⟨rfl, Below.refl _ _⟩
  by_cases hb0 : (1048576 : Int) < (a0.size : Int)
  · clear h
    go_wp2_with fail
    go_ret
    exact ⟨rfl, Below.refl _ _⟩
  by_cases hb2 : (1048576 : Int) < (a2.size : Int)
  · clear h
    go_wp2_with fail
    go_ret
    exact ⟨rfl, Below.refl _ _⟩
  have hb3 : (1048576 : Int) < (a0.size : Int) + (a2.size : Int) := by omega
  clear h
  go_wp2_with fail
  go_ret
  exact ⟨rfl, Below.refl _ _⟩
end Go.Proofs.Qxb6001671a
