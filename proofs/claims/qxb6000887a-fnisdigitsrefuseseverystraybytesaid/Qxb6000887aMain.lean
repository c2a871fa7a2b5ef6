/-
  THE LAW's OWN WALK: out of the callees' contracts.
-/
import Derived.Test.Qxb6000887aWalks
import Derived.RegionTactic
import Derived.WalkSpells
import Derived.Laws.IdiomStrings
namespace Go.Proofs.Qxb6000887a
open Go.ChangeShapes Go.WideShapes Go.ChangeAt Go.RowKit
open Plain

/-- 'string([]byte{c})': the one cell just laid, read back. -/
theorem conv_one (a2 : Int) (h8 : 0 ≤ a2 ∧ a2 ≤ 255) (w : World) :
    (convert 25 9 (.slice (some ⟨w.heap.size, 0, none⟩) 1 1)).run Try.prog (w.alloc (.cells #[.int .u8 a2] 5)).drew =
      .ok (.string ⟨#[UInt8.ofNat a2.toNat]⟩) (w.alloc (.cells #[.int .u8 a2] 5)).drew := by
  have := run_convert_bytes_back (P := Try.prog) (w.alloc (.cells #[.int .u8 a2] 5)).drew 25 9 5 ⟨w.heap.size, 0, none⟩ 1 [UInt8.ofNat a2.toNat] Try.underlying25 Try.underlying5 Try.underlying9 (fun j hj => by
    have : j = 0 := by simpa using hj
    subst this
    have e : ((UInt8.ofNat a2.toNat).toNat : Int) = a2 := by simp [UInt8.toNat_ofNat']; omega
    simp only [List.getElem_cons_zero, e]
    show World.cell? (w.alloc (.cells #[.int .u8 a2] 5)) ⟨w.heap.size, 0, none⟩ = _
    rw [World.cell?_alloc_mark]; rfl)
  exact this

/-- 'ZZIsDigits' where the plain law says no. -/
theorem zz_no (s : ByteArray) (w : World) (hs : s.size ≤ maxLen) (h : isDig s.data.toList = false) :
    Calls Try.prog 6 #[.string s] w fun e w' => e = .returned (.bool false) ∧ w' = w := by
  rw [← h]
  exact zz_any s w hs

/-- The text with the stray byte set in: her length, and that she is refused. -/
theorem built_size (a0 : ByteArray) (n : Nat) (c : UInt8) (hn : n ≤ a0.size) : (a0.extract 0 n ++ ⟨#[c]⟩ ++ a0.extract n a0.size).size = a0.size + 1 := by
  simp only [ByteArray.size_append, ByteArray.size_extract]
  show min n a0.size - 0 + 1 + (min a0.size a0.size - n) = _
  omega

theorem built_no (a0 : ByteArray) (n : Nat) (a2 : Int) (h8 : 0 ≤ a2 ∧ a2 ≤ 255) (hc : a2 < 48 ∨ 57 < a2) :
    isDig (a0.extract 0 n ++ ⟨#[UInt8.ofNat a2.toNat]⟩ ++ a0.extract n a0.size).data.toList = false := by
  have e : (a0.extract 0 n ++ ⟨#[UInt8.ofNat a2.toNat]⟩ ++ a0.extract n a0.size).data.toList = (a0.extract 0 n).data.toList ++ [UInt8.ofNat a2.toNat] ++ (a0.extract n a0.size).data.toList := by
    simp [ByteArray.data_append]
  rw [e]
  refine isDig_stray _ _ _ ?_
  have hv : (UInt8.ofNat a2.toNat).toNat = a2.toNat := by simp [UInt8.toNat_ofNat']; omega
  rw [Bool.eq_false_iff]
  intro h
  have := (digB_iff _).1 h
  rw [hv] at this
  omega

set_option maxHeartbeats 400000 in
theorem rest_walk (a0 : ByteArray) (n : Nat) (a2 : Int) (w0 : a0.size ≤ maxLen) (h8 : 0 ≤ a2 ∧ a2 ≤ 255) (hb : a0.size ≤ 65536) (hn : n ≤ a0.size) (hc : a2 < 48 ∨ 57 < a2) (w : World) :
    Calls Try.prog 4 #[.string a0, .int .i64 n, .int .u8 a2] w fun e w' => e = .returned (.bool true) ∧ Grown w w' := by
  have hs := w0
  unfold maxLen at hs
  have hd : decide (a0.size ≤ 1048576) = true := decide_eq_true (by omega)
  have hb2 : ¬ (65536 : Int) < (a0.size : Int) := by omega
  have hi1 : ¬ ((n : Int) < 0) := by omega
  have hi2 : ¬ ((a0.size : Int) < (n : Int)) := by omega
  have hcv := conv_one a2 h8 w
  have hno := built_no a0 n a2 h8 hc
  have hsz : (a0.extract 0 n ++ ⟨#[UInt8.ofNat a2.toNat]⟩ ++ a0.extract n a0.size).size ≤ maxLen := by rw [built_size a0 n _ hn]; unfold maxLen; omega
  have C1 : ∀ wx, Calls Try.prog 6 #[.string (a0.extract 0 n ++ ⟨#[UInt8.ofNat a2.toNat]⟩ ++ a0.extract n a0.size)] wx fun e w' => e = .returned (.bool false) ∧ w' = wx := fun wx => zz_no _ wx hsz hno
  have C2 : ∀ wx, Calls Try.prog 6 #[.string ⟨#[]⟩] wx fun e w' => e = .returned (.bool false) ∧ w' = wx := fun wx => zz_no ⟨#[]⟩ wx (Nat.zero_le _) rfl
  have H1 : Hid (∀ wx, Calls Try.prog 6 #[.string (a0.extract 0 n ++ ⟨#[UInt8.ofNat a2.toNat]⟩ ++ a0.extract n a0.size)] wx fun e w' => e = .returned (.bool false) ∧ w' = wx) := C1
  have H2 : Hid (∀ wx, Calls Try.prog 6 #[.string ⟨#[]⟩] wx fun e w' => e = .returned (.bool false) ∧ w' = wx) := C2
  clear hno hsz C1 C2
  rcases hc with hc | hc
  all_goals
    go_enter Try.func4, Try.ntmps4
    go_wp2_with (go_at_call 7; refine (bytes_any _ _ _ _ w0).mono ?_; rintro e w' ⟨rfl, rfl⟩)
    go_region
    go_wp2_with fail
    refine (H1.out _).mono ?_
    rintro e w1 ⟨rfl, rfl⟩
    go_wp2_with fail
    refine (H2.out _).mono ?_
    rintro e w1 ⟨rfl, rfl⟩
    go_wp2_with fail
    go_ret
    exact ⟨rfl, ((Grown.refl _).alloc _ _).drew⟩

set_option maxHeartbeats 400000 in
/-- The ways on which the law has nothing to say. -/
theorem idle_walk (a0 : ByteArray) (a1 a2 : Int) (w0 : a0.size ≤ maxLen) (h8 : 0 ≤ a2 ∧ a2 ≤ 255) (h : (1048576 : Int) < (a0.size : Int) ∨ (65536 : Int) < (a0.size : Int) ∨ (48 ≤ a2 ∧ a2 ≤ 57) ∨ a1 < 0 ∨ (a0.size : Int) < a1) (w : World) :
    Calls Try.prog 4 #[.string a0, .int .i64 a1, .int .u8 a2] w fun e w' => e = .returned (.bool true) ∧ Grown w w' := by
  have hs := w0
  unfold maxLen at hs
  by_cases hb : (1048576 : Int) < (a0.size : Int)
  · have hd : decide (a0.size ≤ 1048576) = false := decide_eq_false (by omega)
    clear h
    go_enter Try.func4, Try.ntmps4
    go_wp2_with (go_at_call 7; refine (bytes_any _ _ _ _ w0).mono ?_; rintro e w' ⟨rfl, rfl⟩)
    go_ret
    exact ⟨rfl, Grown.refl _⟩
  have hd : decide (a0.size ≤ 1048576) = true := decide_eq_true (by omega)
  by_cases hb2 : (65536 : Int) < (a0.size : Int)
  · clear h
    go_enter Try.func4, Try.ntmps4
    go_wp2_with (go_at_call 7; refine (bytes_any _ _ _ _ w0).mono ?_; rintro e w' ⟨rfl, rfl⟩)
    go_ret
    exact ⟨rfl, Grown.refl _⟩
  by_cases hc : 48 ≤ a2 ∧ a2 ≤ 57
  · obtain ⟨hc1, hc2⟩ := hc
    clear h
    go_enter Try.func4, Try.ntmps4
    go_wp2_with (go_at_call 7; refine (bytes_any _ _ _ _ w0).mono ?_; rintro e w' ⟨rfl, rfl⟩)
    go_ret
    exact ⟨rfl, Grown.refl _⟩
  by_cases hi : a1 < 0
  · clear h
    rcases (show a2 < 48 ∨ 57 < a2 by omega) with hc' | hc'
    all_goals
      clear hc
      go_enter Try.func4, Try.ntmps4
      go_wp2_with (go_at_call 7; refine (bytes_any _ _ _ _ w0).mono ?_; rintro e w' ⟨rfl, rfl⟩)
      go_ret
      exact ⟨rfl, Grown.refl _⟩
  · have hi2 : (a0.size : Int) < a1 := by omega
    clear h
    rcases (show a2 < 48 ∨ 57 < a2 by omega) with hc' | hc'
    all_goals
      clear hc
      go_enter Try.func4, Try.ntmps4
      go_wp2_with (go_at_call 7; refine (bytes_any _ _ _ _ w0).mono ?_; rintro e w' ⟨rfl, rfl⟩)
      go_ret
      exact ⟨rfl, Grown.refl _⟩
end Go.Proofs.Qxb6000887a
