/-
  PLAIN LAW: no Go in sight: what 'candidatesOf' selects, and that it hangs on the set of ids alone.
-/
namespace Go.Proofs.Qxb6001205a.Plain

/-- Is x among ids, byte by byte? -/
def has (ids : List ByteArray) (x : ByteArray) : Bool := ids.any fun y => x.toList == y.toList

/-- What 'candidatesOf' selects. -/
def pick (cs : List (ByteArray × ByteArray)) (ids : List ByteArray) : List (ByteArray × ByteArray) := cs.filter fun c => has ids c.1

theorem has_reverse (ids : List ByteArray) (x : ByteArray) : has ids.reverse x = has ids x := by simp [has]

theorem has_twice (ids : List ByteArray) (x : ByteArray) : has (ids ++ ids.reverse) x = has ids x := by simp [has]

/-- THE LAW: reversed ids select the same. -/
theorem pick_reverse (cs : List (ByteArray × ByteArray)) (ids : List ByteArray) : pick cs ids.reverse = pick cs ids := by
  unfold pick
  congr 1
  funext c
  exact has_reverse ids c.1

/-- THE LAW: ids given twice select the same. -/
theorem pick_twice (cs : List (ByteArray × ByteArray)) (ids : List ByteArray) : pick cs (ids ++ ids.reverse) = pick cs ids := by
  unfold pick
  congr 1
  funext c
  exact has_twice ids c.1

theorem has_nil (x : ByteArray) : has [] x = false := rfl

theorem has_take_succ (ids : List ByteArray) (x : ByteArray) (k : Nat) (h : k < ids.length) (hno : has (ids.take k) x = false) (hne : (x.toList == ids[k].toList) = false) : has (ids.take (k + 1)) x = false := by
  rw [List.take_succ_eq_append_getElem h]
  unfold has at *
  rw [List.any_append, hno]
  simp [hne]

theorem has_at (ids : List ByteArray) (x : ByteArray) (k : Nat) (h : k < ids.length) (he : (x.toList == ids[k].toList) = true) : has ids x = true := by
  unfold has
  rw [List.any_eq_true]
  exact ⟨ids[k], List.getElem_mem h, he⟩

theorem pick_take_hit (cs : List (ByteArray × ByteArray)) (ids : List ByteArray) (k : Nat) (h : k < cs.length) (hh : has ids cs[k].1 = true) : pick (cs.take (k + 1)) ids = pick (cs.take k) ids ++ [cs[k]] := by
  unfold pick
  rw [List.take_succ_eq_append_getElem h, List.filter_append]
  simp [hh]

theorem pick_take_miss (cs : List (ByteArray × ByteArray)) (ids : List ByteArray) (k : Nat) (h : k < cs.length) (hh : has ids cs[k].1 = false) : pick (cs.take (k + 1)) ids = pick (cs.take k) ids := by
  unfold pick
  rw [List.take_succ_eq_append_getElem h, List.filter_append]
  simp [hh]

theorem pick_length (cs : List (ByteArray × ByteArray)) (ids : List ByteArray) : (pick cs ids).length ≤ cs.length := List.length_filter_le _ _

end Go.Proofs.Qxb6001205a.Plain
