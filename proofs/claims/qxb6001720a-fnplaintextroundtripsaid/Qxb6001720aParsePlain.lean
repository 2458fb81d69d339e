import Derived.Test.Qxb6001720aPlain
namespace Go.Proofs.Qxb6001720a
open Go.RowKit

/-- the bytes of t from p on, ahead of i -/
def preOf (t : ByteArray) (p i : Nat) : List UInt8 := (t.data.toList.take i).drop p
/-- the digits among them (all but the dots) -/
def digsOf (t : ByteArray) (p i : Nat) : List UInt8 := (preOf t p i).filter fun c => c != 46
/-- how many bytes stand ahead of the first dot -/
def intLenOf (t : ByteArray) (p i : Nat) : Nat := ((preOf t p i).takeWhile fun c => c != 46).length
/-- is there a dot among them? -/
def dotOf (t : ByteArray) (p i : Nat) : Bool := (preOf t p i).any fun c => c == 46

theorem preOf_start (t : ByteArray) (p : Nat) : preOf t p p = [] := by
  unfold preOf; rw [List.drop_eq_nil_iff]; exact List.length_take_le _ _

theorem preOf_succ (t : ByteArray) (p i : Nat) (hp : p ≤ i) (hi : i < t.size) : preOf t p (i + 1) = preOf t p i ++ [t[i]] := by
  have hl : i < t.data.toList.length := by simpa using hi
  have e : t.data.toList[i] = t[i] := rfl
  unfold preOf
  rw [List.take_succ_eq_append_getElem hl, List.drop_append_of_le_length (by rw [List.length_take]; omega), e]

theorem digsOf_dot (t : ByteArray) (p i : Nat) (hp : p ≤ i) (hi : i < t.size) (h : t[i] = 46) : digsOf t p (i + 1) = digsOf t p i := by
  unfold digsOf; rw [preOf_succ t p i hp hi, List.filter_append, h]; simp
theorem digsOf_digit (t : ByteArray) (p i : Nat) (hp : p ≤ i) (hi : i < t.size) (h : t[i] ≠ 46) : digsOf t p (i + 1) = digsOf t p i ++ [t[i]] := by
  unfold digsOf; rw [preOf_succ t p i hp hi, List.filter_append]; simp [h]
theorem dotOf_dot (t : ByteArray) (p i : Nat) (hp : p ≤ i) (hi : i < t.size) (h : t[i] = 46) : dotOf t p (i + 1) = true := by
  unfold dotOf; rw [preOf_succ t p i hp hi, List.any_append, h]; simp
theorem dotOf_digit (t : ByteArray) (p i : Nat) (hp : p ≤ i) (hi : i < t.size) (h : t[i] ≠ 46) : dotOf t p (i + 1) = dotOf t p i := by
  unfold dotOf; rw [preOf_succ t p i hp hi, List.any_append]; simp [h]

theorem takeWhile_of_any (x y : List UInt8) (h : (x.any fun c => c == 46) = true) : ((x ++ y).takeWhile fun c => c != 46) = x.takeWhile fun c => c != 46 := by
  induction x with
  | nil => simp at h
  | cons a x ih =>
    by_cases ha : a = 46
    · subst ha; simp
    · rw [List.any_cons] at h
      have h' : (x.any fun c => c == 46) = true := by simpa [ha] using h
      simp [ha, ih h']
theorem takeWhile_of_not_any (x : List UInt8) (h : (x.any fun c => c == 46) = false) : (x.takeWhile fun c => c != 46) = x := by
  induction x with
  | nil => rfl
  | cons a x ih =>
    rw [List.any_cons, Bool.or_eq_false_iff] at h
    have ha : (a != 46) = true := by simpa using h.1
    rw [List.takeWhile_cons, ha, if_pos rfl, ih h.2]
theorem all_of_not_any (x : List UInt8) (h : (x.any fun c => c == 46) = false) : ∀ a ∈ x, (a != 46) = true := by
  intro a ha
  rw [List.any_eq_false] at h
  simpa using h a ha

theorem intLenOf_dotted (t : ByteArray) (p i : Nat) (hp : p ≤ i) (hi : i < t.size) (h : dotOf t p i = true) : intLenOf t p (i + 1) = intLenOf t p i := by
  unfold intLenOf; rw [preOf_succ t p i hp hi, takeWhile_of_any _ _ h]
theorem intLenOf_dot (t : ByteArray) (p i : Nat) (hp : p ≤ i) (hi : i < t.size) (h : dotOf t p i = false) (hc : t[i] = 46) : intLenOf t p (i + 1) = intLenOf t p i := by
  have hx := takeWhile_of_not_any _ h
  have hall := all_of_not_any _ h
  unfold intLenOf
  rw [preOf_succ t p i hp hi, List.takeWhile_append_of_pos hall, hx, hc]
  simp
theorem intLenOf_digit (t : ByteArray) (p i : Nat) (hp : p ≤ i) (hi : i < t.size) (h : dotOf t p i = false) (hc : t[i] ≠ 46) : intLenOf t p (i + 1) = intLenOf t p i + 1 := by
  have hx := takeWhile_of_not_any _ h
  have hall := all_of_not_any _ h
  unfold intLenOf
  rw [preOf_succ t p i hp hi, List.takeWhile_append_of_pos hall, hx]
  simp [hc]

theorem preOf_length_le (t : ByteArray) (p i : Nat) : (preOf t p i).length ≤ i := by
  unfold preOf
  rw [List.length_drop]
  have := List.length_take_le i t.data.toList
  omega
theorem digsOf_length_le (t : ByteArray) (p i : Nat) : (digsOf t p i).length ≤ i := Nat.le_trans (List.length_filter_le _ _) (preOf_length_le t p i)
theorem intLenOf_le (t : ByteArray) (p i : Nat) : intLenOf t p i ≤ i := Nat.le_trans (List.Sublist.length_le (List.takeWhile_sublist _)) (preOf_length_le t p i)
end Go.Proofs.Qxb6001720a
