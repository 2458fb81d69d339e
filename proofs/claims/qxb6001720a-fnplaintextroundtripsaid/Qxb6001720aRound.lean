import Derived.Test.Qxb6001720aParse
namespace Go.Proofs.Qxb6001720a
open Go.RowKit

def DigB (c : UInt8) : Prop := c ≠ 46 ∧ 48 ≤ (c.toNat : Int) ∧ (c.toNat : Int) ≤ 57

/-- digits and at most one dot -/
def LGood (u : List UInt8) : Prop := ∀ j (h : j < u.length), (u[j] = 46 ∧ ((u.take j).any fun c => c == 46) = false) ∨ DigB u[j]

theorem any_false_of_dig (A : List UInt8) (h : ∀ c ∈ A, DigB c) : (A.any fun c => c == 46) = false := by
  rw [List.any_eq_false]
  intro c hc
  have := (h c hc).1
  simpa using this

theorem lgood_plain (A : List UInt8) (h : ∀ c ∈ A, DigB c) : LGood A := fun _ hj => .inr (h _ (List.getElem_mem hj))

theorem lgood_dot (A B : List UInt8) (hA : ∀ c ∈ A, DigB c) (hB : ∀ c ∈ B, DigB c) : LGood (A ++ 46 :: B) := by
  intro j hj
  by_cases h1 : j < A.length
  · right
    rw [List.getElem_append_left h1]
    exact hA _ (List.getElem_mem h1)
  · by_cases h2 : j = A.length
    · left
      subst h2
      refine ⟨by simp, ?_⟩
      rw [List.take_left']
      · exact any_false_of_dig A hA
      · rfl
    · right
      obtain ⟨k, rfl⟩ : ∃ k, j = A.length + 1 + k := ⟨j - (A.length + 1), by omega⟩
      have hk : k < B.length := by simp at hj; omega
      have e : (A ++ 46 :: B)[A.length + 1 + k] = B[k] := by
        rw [List.getElem_append_right (by omega)]
        have : A.length + 1 + k - A.length = k + 1 := by omega
        simp [this]
      rw [e]
      exact hB _ (List.getElem_mem hk)

theorem filter_dig (A : List UInt8) (h : ∀ c ∈ A, DigB c) : (A.filter fun c => c != 46) = A := by
  rw [List.filter_eq_self]
  intro c hc
  have := (h c hc).1
  simpa using this
theorem take_dig (A : List UInt8) (h : ∀ c ∈ A, DigB c) : (A.takeWhile fun c => c != 46) = A := takeWhile_of_not_any A (any_false_of_dig A h)
theorem filter_dot (A B : List UInt8) (hA : ∀ c ∈ A, DigB c) (hB : ∀ c ∈ B, DigB c) : ((A ++ 46 :: B).filter fun c => c != 46) = A ++ B := by
  rw [List.filter_append, filter_dig A hA]
  simp [filter_dig B hB]
theorem take_dot (A B : List UInt8) (hA : ∀ c ∈ A, DigB c) : ((A ++ 46 :: B).takeWhile fun c => c != 46) = A := by
  rw [List.takeWhile_append_of_pos (all_of_not_any A (any_false_of_dig A hA))]
  simp

theorem digB_zero : DigB 48 := by
  refine ⟨by decide, ?_, ?_⟩ <;> decide
theorem digB_zeros (n : Nat) : ∀ c ∈ List.replicate n (48 : UInt8), DigB c := by
  intro c hc
  rw [List.mem_replicate] at hc
  rw [hc.2]; exact digB_zero
theorem digB_append {A B : List UInt8} (hA : ∀ c ∈ A, DigB c) (hB : ∀ c ∈ B, DigB c) : ∀ c ∈ A ++ B, DigB c := by
  intro c hc
  rw [List.mem_append] at hc
  exact hc.elim (hA c) (hB c)

/-- zeros, then D, then zeros -/
theorem trim_mk (z z2 : Nat) (D : List UInt8) (hne : D ≠ []) (h0 : D.head? ≠ some 48) (h1 : D.getLast? ≠ some 48) :
    Trim (List.replicate z 48 ++ (D ++ List.replicate z2 48)) z (z + D.length) := by
  have hpos : 0 < D.length := List.length_pos_iff.2 hne
  refine ⟨by omega, by simp, ?_, ?_, ?_, ?_⟩
  · intro j hj
    rw [List.getElem?_append_left (by simpa using hj)]
    simp [hj]
  · intro _
    rw [List.getElem?_append_right (by simp)]
    simp only [List.length_replicate, Nat.sub_self]
    rw [List.getElem?_append_left hpos, ← List.head?_eq_getElem?]
    exact h0
  · intro j hj hj2
    rw [List.getElem?_append_right (by simp; omega), List.getElem?_append_right (by simp; omega)]
    rw [List.getElem?_replicate, if_pos]
    simp at hj2 ⊢
    omega
  · intro _
    rw [List.getElem?_append_right (by simp; omega)]
    simp only [List.length_replicate]
    rw [List.getElem?_append_left (by omega), show z + D.length - 1 - z = D.length - 1 by omega, ← List.getLast?_eq_getElem?]
    exact h1

theorem trim_seg (z z2 : Nat) (D : List UInt8) : ((List.replicate z 48 ++ (D ++ List.replicate z2 48)).drop z).take (z + D.length - z) = D := by
  rw [List.drop_left' (by simp), show z + D.length - z = D.length by omega, List.take_left' rfl]

/-- what the text of a decimal with digits reads back as -/
def BodyOk (ds : List UInt8) (exp : Int) : Prop :=
  LGood (plainBody ds exp) ∧ (∃ c r, plainBody ds exp = c :: r ∧ DigB c) ∧ ∃ z z2 : Nat, ((plainBody ds exp).filter fun c => c != 46) = List.replicate z 48 ++ (ds ++ List.replicate z2 48) ∧
    ((((plainBody ds exp).takeWhile fun c => c != 46).length : Nat) : Int) - z = exp

theorem body_ok (ds : List UInt8) (exp : Int) (hne : ds ≠ []) (hd : ∀ c ∈ ds, DigB c) : BodyOk ds exp := by
  have hpos : 0 < ds.length := List.length_pos_iff.2 hne
  unfold BodyOk
  by_cases h : exp ≤ 0
  · obtain ⟨n, rfl⟩ : ∃ n : Nat, exp = -(n : Int) := ⟨(-exp).toNat, by omega⟩
    have e : plainBody ds (-(n : Int)) = [48] ++ 46 :: (List.replicate n 48 ++ ds) := by simp [plainBody]
    have h48 : ∀ c ∈ [(48 : UInt8)], DigB c := by intro c hc; simp at hc; subst hc; exact digB_zero
    have hB := digB_append (digB_zeros n) hd
    rw [e]
    refine ⟨lgood_dot _ _ h48 hB, ⟨48, _, rfl, digB_zero⟩, n + 1, 0, ?_, ?_⟩
    · rw [filter_dot _ _ h48 hB]
      simp [List.replicate_succ]
    · rw [take_dot _ _ h48]
      simp; omega
  · obtain ⟨n, rfl⟩ := Int.eq_ofNat_of_zero_le (show 0 ≤ exp by omega)
    by_cases hn : ds.length ≤ n
    · have e : plainBody ds (n : Int) = ds ++ List.replicate (n - ds.length) 48 := by
        unfold plainBody
        rw [if_neg (by omega), if_pos (by omega)]
        congr 2; omega
      have hA := digB_append hd (digB_zeros (n - ds.length))
      rw [e]
      refine ⟨lgood_plain _ hA, ?_, 0, n - ds.length, ?_, ?_⟩
      · cases ds with
        | nil => exact absurd rfl hne
        | cons c r => exact ⟨c, _, rfl, hd c (by simp)⟩
      · rw [filter_dig _ hA]; simp
      · rw [take_dig _ hA]; simp; omega
    · have e : plainBody ds (n : Int) = ds.take n ++ 46 :: ds.drop n := by
        unfold plainBody
        rw [if_neg (by omega), if_neg (by omega), Int.toNat_natCast]
      have hA : ∀ c ∈ ds.take n, DigB c := fun c hc => hd c (List.mem_of_mem_take hc)
      have hB : ∀ c ∈ ds.drop n, DigB c := fun c hc => hd c (List.mem_of_mem_drop hc)
      rw [e]
      refine ⟨lgood_dot _ _ hA hB, ?_, 0, 0, ?_, ?_⟩
      · cases ds with
        | nil => exact absurd rfl hne
        | cons c r =>
          obtain ⟨k, rfl⟩ : ∃ k, n = k + 1 := ⟨n - 1, by omega⟩
          exact ⟨c, _, rfl, hd c (by simp)⟩
      · rw [filter_dot _ _ hA hB]; simp
      · rw [take_dot _ _ hA, List.length_take]; simp; omega

/-- the text: a sign or none, then u -/
theorem preOf_mk (pre u : List UInt8) (i : Nat) (hi : pre.length ≤ i) : preOf ⟨(pre ++ u).toArray⟩ pre.length i = u.take (i - pre.length) := by
  unfold preOf
  show ((pre ++ u).take i).drop pre.length = _
  rw [List.take_append, List.take_of_length_le hi, List.drop_left' rfl]

theorem size_mk (l : List UInt8) : (⟨l.toArray⟩ : ByteArray).size = l.length := by show l.toArray.size = _; simp

theorem good_mk (pre u : List UInt8) (h : LGood u) : Good ⟨(pre ++ u).toArray⟩ pre.length := by
  intro i hi hp
  have hi' : i < (pre ++ u).length := by rw [size_mk] at hi; exact hi
  have hj : i - pre.length < u.length := by rw [List.length_append] at hi'; omega
  have e : (⟨(pre ++ u).toArray⟩ : ByteArray)[i] = u[i - pre.length] := by
    show (pre ++ u).toArray[i] = _
    rw [List.getElem_toArray, List.getElem_append_right hp]
  unfold dotOf
  rw [e, preOf_mk pre u i hp]
  rcases h _ hj with h | h
  · exact .inl h
  · exact .inr h

theorem digs_mk (pre u : List UInt8) : digsOf ⟨(pre ++ u).toArray⟩ pre.length (⟨(pre ++ u).toArray⟩ : ByteArray).size = u.filter fun c => c != 46 := by
  unfold digsOf
  rw [size_mk, preOf_mk pre u _ (by simp), List.length_append, Nat.add_sub_cancel_left, List.take_length]
theorem intLen_mk (pre u : List UInt8) : intLenOf ⟨(pre ++ u).toArray⟩ pre.length (⟨(pre ++ u).toArray⟩ : ByteArray).size = (u.takeWhile fun c => c != 46).length := by
  unfold intLenOf
  rw [size_mk, preOf_mk pre u _ (by simp), List.length_append, Nat.add_sub_cancel_left, List.take_length]

theorem canon_digits {neg : Bool} {s : ByteArray} {exp : Int} (h : Canon neg s exp) (hs : 0 < s.size) :
    s.data.toList ≠ [] ∧ (∀ c ∈ s.data.toList, DigB c) ∧ s.data.toList.head? ≠ some 48 ∧ s.data.toList.getLast? ≠ some 48 := by
  obtain ⟨h1, ⟨_, h2⟩, ⟨_, h3⟩⟩ := h.2 hs
  have hl : s.data.toList.length = s.size := by rw [Array.length_toList]; rfl
  refine ⟨fun e => by rw [e] at hl; simp at hl; omega, ?_, ?_, ?_⟩
  · intro c hc
    obtain ⟨k, hk, rfl⟩ := List.getElem_of_mem hc
    obtain ⟨_, d1, d2⟩ := h1 k (by omega)
    have e : s.data.toList[k] = s[k] := rfl
    rw [e]
    refine ⟨fun e46 => ?_, d1, d2⟩
    rw [e46] at d1
    revert d1; decide
  · rw [List.head?_eq_getElem?, List.getElem?_eq_getElem (by omega)]
    intro e
    have e' : s.data.toList[0] = s[0] := rfl
    rw [e'] at e
    exact h2 (by rw [Option.some.inj e]; rfl)
  · rw [List.getLast?_eq_getElem?, List.getElem?_eq_getElem (by omega)]
    intro e
    have e' : s.data.toList[s.data.toList.length - 1] = s[s.size - 1] := by
      simp only [hl]; rfl
    rw [e'] at e
    exact h3 (by rw [Option.some.inj e]; rfl)

/-- the part with digits: behind a sign pre or none -/
theorem round_full (neg : Bool) (s : ByteArray) (exp : Int) (pre : List UInt8) (h : Canon neg s exp) (hs : 0 < s.size) :
    Good ⟨(pre ++ plainBody s.data.toList exp).toArray⟩ pre.length ∧ ∃ z1 hh, Trim (digsOf ⟨(pre ++ plainBody s.data.toList exp).toArray⟩ pre.length (⟨(pre ++ plainBody s.data.toList exp).toArray⟩ : ByteArray).size) z1 hh ∧
      0 < (digsOf ⟨(pre ++ plainBody s.data.toList exp).toArray⟩ pre.length (⟨(pre ++ plainBody s.data.toList exp).toArray⟩ : ByteArray).size).length ∧
      parsed neg (digsOf ⟨(pre ++ plainBody s.data.toList exp).toArray⟩ pre.length (⟨(pre ++ plainBody s.data.toList exp).toArray⟩ : ByteArray).size) (intLenOf ⟨(pre ++ plainBody s.data.toList exp).toArray⟩ pre.length (⟨(pre ++ plainBody s.data.toList exp).toArray⟩ : ByteArray).size) z1 hh = .tuple #[.bool neg, .string s, .int .i64 exp, .bool true] := by
  obtain ⟨hne, hd, h0, h1⟩ := canon_digits h hs
  obtain ⟨hg, _, z, z2, hf, hE⟩ := body_ok s.data.toList exp hne hd
  have hpos : 0 < s.data.toList.length := List.length_pos_iff.2 hne
  refine ⟨good_mk _ _ hg, z, z + s.data.toList.length, ?_⟩
  rw [digs_mk, intLen_mk, hf]
  refine ⟨trim_mk z z2 _ hne h0 h1, by simp; omega, ?_⟩
  unfold parsed
  rw [if_neg (by omega), trim_seg, hE]

/-- THE PLAIN LAW: a canonical decimal's text reads back as that decimal -/
theorem round_plain (neg : Bool) (s : ByteArray) (exp : Int) (h : Canon neg s exp) :
    ∃ (p z1 hh : Nat) (t : ByteArray), t = ⟨(plainTxt neg s.data.toList exp).toArray⟩ ∧ ((neg = true ∧ p = 1 ∧ ∃ g : 0 < t.size, ((t[0].toNat : Int) == 45) = true) ∨ (neg = false ∧ p = 0 ∧ ∃ g : 0 < t.size, ((t[0].toNat : Int) == 45) = false)) ∧
      Good t p ∧ Trim (digsOf t p t.size) z1 hh ∧ 0 < (digsOf t p t.size).length ∧ parsed neg (digsOf t p t.size) (intLenOf t p t.size) z1 hh = .tuple #[.bool neg, .string s, .int .i64 exp, .bool true] := by
  by_cases hs : s.size = 0
  · obtain ⟨rfl, rfl⟩ := h.1 hs
    have e0 : s.data.toList = [] := List.length_eq_zero_iff.1 (by rw [Array.length_toList]; exact hs)
    have es : s = ⟨#[]⟩ := by
      apply Go.WideShapes.bytes_inj
      rw [e0]
    have h48 : ∀ c ∈ [(48 : UInt8)], DigB c := by intro c hc; simp at hc; subst hc; exact digB_zero
    have ep : plainTxt false s.data.toList 0 = [] ++ [48] := by simp [plainTxt, e0]
    have hg := good_mk [] [48] (lgood_plain _ h48)
    have hdg := digs_mk [] [48]
    rw [filter_dig _ h48] at hdg
    refine ⟨0, 1, 1, ⟨([] ++ [48] : List UInt8).toArray⟩, by rw [ep], .inr ⟨rfl, rfl, by decide, by decide⟩, hg, ?_, ?_, ?_⟩
    · rw [show (0 : Nat) = ([] : List UInt8).length from rfl, hdg]
      refine ⟨by decide, by decide, ?_, ?_, ?_, ?_⟩
      · intro j hj
        obtain rfl : j = 0 := by omega
        rfl
      · intro hh; simp at hh
      · intro j hj hj2; simp at hj2; omega
      · intro hh; omega
    · rw [show (0 : Nat) = ([] : List UInt8).length from rfl, hdg]; decide
    · unfold parsed
      rw [if_pos rfl, es]
  · have hs' : 0 < s.size := by omega
    obtain ⟨hne, hd, _, _⟩ := canon_digits h hs'
    obtain ⟨_, ⟨c, r, hcr, hcd⟩, _⟩ := body_ok s.data.toList exp hne hd
    cases neg
    · obtain ⟨g1, z1, hh, g2, g3, g4⟩ := round_full false s exp [] h hs'
      have ep : plainTxt false s.data.toList exp = [] ++ plainBody s.data.toList exp := by simp [plainTxt, hne]
      refine ⟨0, z1, hh, ⟨([] ++ plainBody s.data.toList exp).toArray⟩, by rw [ep], .inr ⟨rfl, rfl, ?_⟩, g1, g2, g3, g4⟩
      rw [List.nil_append, hcr]
      refine ⟨by rw [size_mk]; simp, ?_⟩
      rw [beq_eq_false_iff_ne]
      have := hcd.2.1
      show (c.toNat : Int) ≠ 45
      omega
    · obtain ⟨g1, z1, hh, g2, g3, g4⟩ := round_full true s exp [45] h hs'
      have ep : plainTxt true s.data.toList exp = [45] ++ plainBody s.data.toList exp := by simp [plainTxt, hne]
      refine ⟨1, z1, hh, ⟨([45] ++ plainBody s.data.toList exp).toArray⟩, by rw [ep], .inl ⟨rfl, rfl, by rw [size_mk]; simp, ?_⟩, g1, g2, g3, g4⟩
      rfl
end Go.Proofs.Qxb6001720a
