/-
  THE WALKS of the callees: 'zzBytes_..' (24), 'zzAppendEscaped' (21), 'QuoteEnd' (22) on an unclosed quote.
-/
import Derived.Test.Qxb6001671aProg
import Derived.Test.Qxb6001671aPlain
import Derived.WalkKit
import Derived.ProofKit
import Derived.WalkSpells
import Derived.Laws.IdiomStrings
import Derived.Lib.AppendStr
namespace Go.Proofs.Qxb6001671a
open Go.ChangeShapes Go.WideShapes Go.ChangeAt Go.RowKit
open Plain

theorem info5 : (Try.prog.info? 5).map (fun i => (i.zero, i.size, i.bytes)) = some (some (.int .u8 0), 1, 1) := by kernel_rfl

/-- A bool comes back. -/
def SomeBool (e : Ending) : Prop := ∃ t : Bool, e = .returned (.bool t)
theorem SomeBool.mk (t : Bool) : SomeBool (.returned (.bool t)) := ⟨t, rfl⟩

/-- Bytes as cells. -/
def bc (l : List UInt8) : List Value := l.map fun b => Value.int .u8 (b.toNat : Int)

theorem bc_length (l : List UInt8) : (bc l).length = l.length := by simp [bc]

theorem bc_append (l r : List UInt8) : bc (l ++ r) = bc l ++ bc r := by simp [bc]

theorem bc_one (b : UInt8) : bc [b] = [.int .u8 (b.toNat : Int)] := rfl

set_option maxHeartbeats 400000 in
theorem bytes_any (s : ByteArray) (c : Int) (r : ByteArray) (w : World) (hs : s.size ≤ maxLen) (hr : r.size ≤ maxLen) :
    Calls Try.prog 24 #[.string s, .int .u8 c, .string r] w fun e w' => SomeBool e ∧ w' = w := by
  unfold maxLen at hs hr
  go_enter Try.func24, Try.ntmps24
  go_wp2_with fail
  all_goals
    go_ret
    exact ⟨SomeBool.mk _, rfl⟩

set_option maxHeartbeats 400000 in
/-- 'QuoteEnd' where the steps lead to the text's end: 0, false, false. P m: where the m-th step stands. -/
theorem quoteEnd_unclosed (s : ByteArray) (p N : Nat) (P : Nat → Nat) (q : UInt8) (w : World) (hs : s.size ≤ 4194304) (hp : p < s.size) (hq : s[p] = q) (h0 : P 0 = p + 1) (hN : P N = s.size)
    (hstep : ∀ m, m < N → ∃ h : P m < s.size, (s[P m] ≠ q ∧ P (m + 1) = P m + 1) ∨ (s[P m] = q ∧ (∃ h2 : P m + 1 < s.size, s[P m + 1] = q) ∧ P (m + 1) = P m + 2)) :
    Calls Try.prog 22 #[.string s, .int .i64 p] w fun e w' => e = .returned (.tuple #[.int .i64 0, .bool false, .bool false]) ∧ w' = w := by
  have H0 : Hid _ := h0
  have HN : Hid _ := hN
  have HS : Hid _ := hstep
  clear h0 hN hstep
  have hpI : (p : Int) < (s.size : Int) := by omega
  go_enter Try.func22, Try.ntmps22
  go_wp2_with fail
  go_loop [5, 8] (fun d i => ∃ (m : Nat) (t : Bool), m ≤ N ∧ i = .int .i64 (P m : Int) ∧ d = .bool t) (fun _ i => s.size - (intOf i).toNat)
  case atStart => exact ⟨0, false, Nat.zero_le _, by have := H0.out; congr 1; omega, rfl⟩
  case round =>
    obtain ⟨m, t, hm, rfl, rfl⟩ := hrel
    obtain ⟨k, hke⟩ : ∃ k, k = P m := ⟨_, rfl⟩
    rw [← hke]
    by_cases hmN : m < N
    · obtain ⟨h, hcase⟩ := HS.out m hmN
      rcases hcase with ⟨hne, hnx⟩ | ⟨he, ⟨h2, he2⟩, hnx⟩
      · have hks : k < s.size := by omega
        have hne' : s[k] ≠ q := by subst hke; exact hne
        have hI : ¬ (s[k].toNat : Int) = (q.toNat : Int) := fun e => hne' (UInt8.toNat_inj.1 (by omega))
        have HX : Hid (P (m + 1) = k + 1) := by unfold Hid; omega
        clear hne hnx hke h
        go_wp2_with fail
        go_round
        case rel => exact ⟨m + 1, t, by omega, by have := HX.out; congr 1; omega, rfl⟩
        case measure => simp [intOf]; omega
      · have hks : k < s.size := by omega
        have hks2 : k + 1 < s.size := by omega
        have he' : s[k] = q := by subst hke; exact he
        have he2' : s[k + 1] = q := by subst hke; exact he2
        have hkI : (k : Int) + 1 < (s.size : Int) := by omega
        have HX : Hid (P (m + 1) = k + 2) := by unfold Hid; omega
        clear he he2 hnx hke h h2
        go_wp2_with fail
        go_round
        case rel => exact ⟨m + 1, true, by omega, by have := HX.out; congr 1; omega, rfl⟩
        case measure => simp [intOf]; omega
    · have e : m = N := by omega
      have hks : s.size ≤ k := by
        have := HN.out
        subst e
        omega
      clear hke
      go_wp2_with fail
      go_ret3
      exact ⟨rfl, rfl⟩

/-- The row that came in, with more behind it; nothing below 'base' has turned. -/
def GaveRow (base : Nat) (w : World) (l : List UInt8) (e : Ending) (w' : World) : Prop := ∃ v, e = .returned v ∧ w'.ownsRow base 5 1 v l.length (bc l) ∧ Below base w w'

theorem row_all {w : World} {base k : Nat} {v : Value} {l r : List UInt8} {q : UInt8} (hk : r.length ≤ k) (h : w.ownsRow base 5 1 v (l ++ esc q (r.take k)).length (bc (l ++ esc q (r.take k)))) :
    w.ownsRow base 5 1 v (l ++ esc q r).length (bc (l ++ esc q r)) := by
  rwa [List.take_of_length_le hk] at h

set_option maxHeartbeats 1000000 in
theorem escaped_any (base : Nat) (v : Value) (l : List UInt8) (q : UInt8) (s : ByteArray) (w : World) (hbase : base ≤ w.heap.size) (hown : w.ownsRow base 5 1 v l.length (bc l)) (hl : l.length ≤ 2097152) (hs : s.size ≤ 1048576) :
    Calls Try.prog 21 #[v, .int .u8 (q.toNat : Int), .string s] w fun e w' => GaveRow base w (l ++ esc q s.data.toList) e w' := by
  obtain ⟨i0, hi, hz0, hz1, hz2⟩ := info_parts info5
  have HL : Hid (s.data.toList.length = s.size) := by unfold Hid; simp
  go_enter Try.func21, Try.ntmps21
  go_wp2_with fail
  go_loopw [0, 7] (fun v i wr => ∃ k : Nat, k ≤ s.size ∧ i = .int .i64 k ∧ wr.ownsRow base 5 1 v (l ++ esc q (s.data.toList.take k)).length (bc (l ++ esc q (s.data.toList.take k))) ∧ Below base w wr) (fun _ i _ => s.size - (intOf i).toNat)
  case atStart => exact ⟨0, Nat.zero_le _, rfl, by simpa [esc] using hown, Below.refl _ _⟩
  case round =>
    obtain ⟨k, hk, rfl, ho, hb⟩ := hrel
    clear hown
    have hsz := hb.size
    by_cases hlt : k < s.size
    · have hkl : k < s.data.toList.length := by have := HL.out; omega
      have hbk : s.data.toList[k] = s[k] := rfl
      obtain ⟨L, hLe⟩ : ∃ L, L = l ++ esc q (s.data.toList.take k) := ⟨_, rfl⟩
      have hLl : L.length ≤ 6291456 := by
        have := esc_length q (s.data.toList.take k)
        rw [hLe, List.length_append]
        rw [List.length_take] at this
        omega
      rw [← hLe] at ho
      by_cases he : s[k] = q
      · have HP : Hid (l ++ esc q (s.data.toList.take (k + 1)) = L ++ [q] ++ [q]) := by
          unfold Hid
          rw [esc_take_eq q _ k hkl (by rw [hbk]; exact he), hLe, hbk, he]
          simp
        have HB : Hid _ := hb
        clear hb hLe hbk
        go_wp2_with (at_builtin; (refine wpList_append_own _ rfl _ _ 27 rfl base 5 i0 _ 1 1 Try.underlying27 hi hz0 hz1 hz2 rfl (by decide) _ _ _ rfl (ho.alloc _) ⟨wr.heap.size, 0, none⟩ 1 1 [.int .u8 (q.toNat : Int)] rfl rfl ?_ ?_ ?_ ?_ ?_ ?_))
        · exact cell_one_new _ _ _
        · intro u hu
          simp only [List.mem_cons, List.not_mem_nil, or_false] at hu
          subst hu
          rfl
        · unfold maxLen; omega
        · omega
        · simp; omega
        · intro v1 w1 hown1 hgrow1 _
          have hb1 : Below base w w1 := (HB.out.alloc (by omega) _).grown hgrow1 (by simp; omega) (fun j hj => (ho.lt j hj).1)
          have hsz1 := hb1.size
          have ho1 : w1.ownsRow base 5 1 v1 (L ++ [q]).length (bc (L ++ [q])) := by
            rw [bc_append, bc_one, List.length_append]
            exact hown1
          have HB1 : Hid _ := hb1
          obtain ⟨L1, hL1e⟩ : ∃ L1, L1 = L ++ [q] := ⟨_, rfl⟩
          have hL1l : L1.length ≤ 6291457 := by rw [hL1e, List.length_append]; simp; omega
          rw [← hL1e] at ho1
          have HP1 : Hid (l ++ esc q (s.data.toList.take (k + 1)) = L1 ++ [q]) := by rw [hL1e]; exact HP.out
          clear hown1 hgrow1 ho hb1 HP hL1e HB
          go_wp2_with (at_builtin; (refine wpList_append_own _ rfl _ _ 27 rfl base 5 i0 _ 1 1 Try.underlying27 hi hz0 hz1 hz2 rfl (by decide) _ _ _ rfl (ho1.alloc _) ⟨w1.heap.size, 0, none⟩ 1 1 [.int .u8 (q.toNat : Int)] rfl rfl ?_ ?_ ?_ ?_ ?_ ?_))
          · exact cell_one_new _ _ _
          · intro u hu
            simp only [List.mem_cons, List.not_mem_nil, or_false] at hu
            subst hu
            rfl
          · unfold maxLen; omega
          · omega
          · simp; omega
          · intro v2 w2 hown2 hgrow2 _
            have HB2 : Hid (Below base w w2) := (HB1.out.alloc (by omega) _).grown hgrow2 (by simp; omega) (fun j hj => (ho1.lt j hj).1)
            have HR : Hid (w2.ownsRow base 5 1 v2 (l ++ esc q (s.data.toList.take (k + 1))).length (bc (l ++ esc q (s.data.toList.take (k + 1))))) := by
              unfold Hid
              rw [HP1.out, bc_append, bc_one, List.length_append]
              exact hown2
            clear hown2 hgrow2 ho1
            go_wp2_with fail
            go_roundw
            case rel => exact ⟨k + 1, by omega, by go_num, HR.out, HB2.out⟩
            case measure => simp [intOf]; omega
      · have HP : Hid (l ++ esc q (s.data.toList.take (k + 1)) = L ++ [s[k]]) := by
          unfold Hid
          rw [esc_take_ne q _ k hkl (by rw [hbk]; exact he), hLe, hbk]
          simp
        have hI : ((s[k].toNat : Int) == (q.toNat : Int)) = false := by
          rw [beq_eq_false_iff_ne]
          exact fun e => he (UInt8.toNat_inj.1 (by omega))
        have HB : Hid _ := hb
        clear hb hLe hbk he
        go_wp2_with (at_builtin; (refine wpList_append_own _ rfl _ _ 27 rfl base 5 i0 _ 1 1 Try.underlying27 hi hz0 hz1 hz2 rfl (by decide) _ _ _ rfl (ho.alloc _) ⟨wr.heap.size, 0, none⟩ 1 1 [.int .u8 (s[k].toNat : Int)] rfl rfl ?_ ?_ ?_ ?_ ?_ ?_))
        · exact cell_one_new _ _ _
        · intro u hu
          simp only [List.mem_cons, List.not_mem_nil, or_false] at hu
          subst hu
          rfl
        · unfold maxLen; omega
        · omega
        · simp; omega
        · intro v1 w1 hown1 hgrow1 _
          have HB2 : Hid (Below base w w1) := (HB.out.alloc (by omega) _).grown hgrow1 (by simp; omega) (fun j hj => (ho.lt j hj).1)
          have HR : Hid (w1.ownsRow base 5 1 v1 (l ++ esc q (s.data.toList.take (k + 1))).length (bc (l ++ esc q (s.data.toList.take (k + 1))))) := by
            unfold Hid
            rw [HP.out, bc_append, bc_one, List.length_append]
            exact hown1
          clear hown1 hgrow1 ho
          go_wp2_with fail
          go_roundw
          case rel => exact ⟨k + 1, by omega, by go_num, HR.out, HB2.out⟩
          case measure => simp [intOf]; omega
    · replace ho := row_all (by have := HL.out; omega) ho
      go_wp2_with fail
      go_ret
      exact ⟨_, rfl, ho, hb⟩
end Go.Proofs.Qxb6001671a
