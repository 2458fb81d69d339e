import Derived.Test.Qxb6001720aPlainWalks
import Derived.Deep.RegionWith
namespace Go.Proofs.Qxb6001720a
open Go.ChangeShapes Go.WideShapes Go.ChangeAt Go.RowKit

theorem appendPlain_any (neg : Bool) (s : ByteArray) (exp : Int) (hl : s.size ≤ 65536) (h1 : -65536 ≤ exp) (h2 : exp ≤ 65536) (cap : Nat) (ao : Option Addr) (b off : Nat) (w : World) (hc : Came w 1 ao b off 0 cap []) :
    Calls Try.prog 40 #[.agg #[.bool neg, .string s, .int .i64 exp], .slice ao 0 cap] w fun e w' => ∃ v r, e = .returned v ∧
      Upon w 5 1 ao b off 0 cap [] w' v (plainTxt neg s.data.toList exp).length (cellsOf (plainTxt neg s.data.toList exp)) r := by
  have hlen : s.data.toList.length = s.size := by rw [Array.length_toList]; rfl
  by_cases h0 : s.size = 0
  · have hs : s.toList.isEmpty = true := by rw [toList_empty_iff]; simpa using h0
    have e0 : s.data.toList = [] := List.length_eq_zero_iff.1 (by rw [hlen]; exact h0)
    refine (appendPlain_empty neg s exp hs cap ao b off w hc).mono ?_
    rintro e w' ⟨v, r, rfl, h⟩
    have ep : plainTxt neg s.data.toList exp = [48] := by simp [plainTxt, e0]
    rw [ep]
    exact ⟨v, r, rfl, h⟩
  · have hs : s.toList.isEmpty = false := by rw [toList_empty_iff]; simpa using h0
    have e0 : s.data.toList ≠ [] := fun e => h0 (by rw [← hlen, e]; rfl)
    have close : ∀ (l : List UInt8) (e : Ending) (w' : World), plainTxt neg s.data.toList exp = l → (∃ v r m ks, e = .returned v ∧ Upon w 5 1 ao b off 0 cap [] w' v m ks r ∧ ks = cellsOf l) →
        ∃ v r, e = .returned v ∧ Upon w 5 1 ao b off 0 cap [] w' v (plainTxt neg s.data.toList exp).length (cellsOf (plainTxt neg s.data.toList exp)) r := by
      rintro l e w' ep ⟨v, r, m, ks, rfl, h, hk⟩
      rw [ep]
      exact ⟨v, r, rfl, recount h hk⟩
    by_cases hx : exp ≤ 0
    · obtain ⟨n, rfl⟩ : ∃ n : Nat, exp = -(n : Int) := ⟨(-exp).toNat, by omega⟩
      cases neg
      · exact (appendPlain_small_false s n hs hl (by omega) cap ao b off w hc).mono fun e w' h => close _ e w' (by simp [plainTxt, plainBody, e0]) h
      · exact (appendPlain_small_true s n hs hl (by omega) cap ao b off w hc).mono fun e w' h => close _ e w' (by simp [plainTxt, plainBody, e0]) h
    · obtain ⟨n, rfl⟩ := Int.eq_ofNat_of_zero_le (show 0 ≤ exp by omega)
      by_cases hn : s.size ≤ n
      · have hb : plainBody s.data.toList (n : Int) = s.data.toList ++ List.replicate (n - s.size) 48 := by
          unfold plainBody
          rw [if_neg (by omega), if_pos (by rw [hlen]; omega), hlen]
          congr 2; omega
        cases neg
        · exact (appendPlain_great_false s n hs hl (by omega) hn (by omega) cap ao b off w hc).mono fun e w' h => close _ e w' (by simp [plainTxt, hb, e0]) h
        · exact (appendPlain_great_true s n hs hl (by omega) hn (by omega) cap ao b off w hc).mono fun e w' h => close _ e w' (by simp [plainTxt, hb, e0]) h
      · have hb : plainBody s.data.toList (n : Int) = s.data.toList.take n ++ (46 :: s.data.toList.drop n) := by
          unfold plainBody
          rw [if_neg (by omega), if_neg (by rw [hlen]; omega), Int.toNat_natCast]
        cases neg
        · exact (appendPlain_mid_false s n hs hl (by omega) (by omega) cap ao b off w hc).mono fun e w' h => close _ e w' (by simp [plainTxt, hb, e0]) h
        · exact (appendPlain_mid_true s n hs hl (by omega) (by omega) cap ao b off w hc).mono fun e w' h => close _ e w' (by simp [plainTxt, hb, e0]) h

theorem Came.drew {W : World} {size : Nat} {ao : Option Addr} {b off len cap : Nat} {olds : List Value} (h : Came W size ao b off len cap olds) : Came W.drew size ao b off len cap olds :=
  ⟨h.le, h.addr, h.lt, h.oldsLen, h.olds, h.spare⟩

/-- a new array of n cells, cut at its head: room for n -/
theorem came_new (W : World) (cs : Array Value) (t : TypeId) (n : Nat) (hn : cs.size = n) {B : Nat} (hB : W.heap.size = B) : Came (W.alloc (.cells cs t)) 1 (some ⟨B, 0, none⟩) B 0 0 n [] := by
  subst hB
  refine ⟨Nat.zero_le _, fun _ => rfl, fun _ => by simp, rfl, fun j u h => by simp at h, fun j hj => ?_⟩
  have hj' : j < cs.size := by omega
  refine ⟨?_, ?_⟩
  · simp [hj']
  · simp

set_option maxHeartbeats 1000000 in
theorem plainText_any (neg : Bool) (s t : ByteArray) (exp : Int) (hl : s.size ≤ 65536) (h1 : -65536 ≤ exp) (h2 : exp ≤ 65536) (w : World) :
    Calls Try.prog 36 #[.agg #[.bool neg, .string s, .int .i64 exp], .string t] w fun e w' => e = .returned (.string ⟨(plainTxt neg s.data.toList exp).toArray⟩) ∧ w.keptBut w' (fun _ => False) := by
  go_enter Try.func36, Try.ntmps36
  go_wp2
  obtain ⟨W, hW⟩ : ∃ W, W = ((w.alloc (.cells #[.bool neg, .string s, .int .i64 exp] 49)).alloc (.cells (Array.replicate 64 (.int .u8 0)) 63)) := ⟨_, rfl⟩
  have hcm : Came W 1 (some ⟨w.heap.size + 1, 0, none⟩) (w.heap.size + 1) 0 0 64 [] := by
    rw [hW]; exact came_new _ _ _ 64 (by simp) (by simp)
  have c0 : W.cell? ⟨w.heap.size, 0, none⟩ = some (.bool neg) := by rw [hW]; simp
  have c1 : W.cell? ⟨w.heap.size, 1, none⟩ = some (.string s) := by rw [hW]; simp
  have c2 : W.cell? ⟨w.heap.size, 2, none⟩ = some (.int .i64 exp) := by rw [hW]; simp
  change Code.wp _ _ _ _ ((w.alloc (.cells #[.bool neg, .string s, .int .i64 exp] 49)).alloc (.cells (Array.replicate 64 (.int .u8 0)) 63))
  rw [← hW]
  have hk : w.keptBut W (fun _ => False) := by
    rw [hW]; exact World.keptBut_trans (World.keptBut_alloc _ _ _) (World.keptBut_alloc _ _ _)
  have HK : Hid (w.keptBut W (fun _ => False)) := hk
  have HS : Hid (w.heap.size + 2 ≤ W.heap.size) := by rw [hW]; simp [Hid]
  clear hW hk
  go_region_with (go_at_call 40; go_must (refine (appendPlain_any neg s exp hl h1 h2 64 (some ⟨w.heap.size + 1, 0, none⟩) (w.heap.size + 1) 0 _ (Came.drew hcm)).mono ?_); rintro e w' ⟨v, r, rfl, hup⟩)
  generalize hpl : plainTxt neg s.data.toList exp = l at hup
  have HP : Hid (plainTxt neg s.data.toList exp = l) := hpl
  clear hpl
  obtain ⟨g, o', cap', rfl, hle, _, hcells⟩ := hup.value (Came.drew hcm) (by unfold maxLen; omega) (.inl (by omega))
  have hconv : (convert 22 9 (.slice (some ⟨g, o', none⟩) l.length cap')).run Try.prog w' = .ok (.string ⟨l.toArray⟩) w' := by
    refine run_convert_bytes_back w' 22 9 5 ⟨g, o', none⟩ cap' l Try.underlying22 Try.underlying5 Try.underlying9 ?_
    intro j hj
    have := hcells j (by omega)
    rw [Addr.add_lit, this]
    simp [cellsOf, hj]
  have HF : Hid (w.keptBut w' (fun _ => False)) := by
    refine kept_then (W := W.drew) (may := fun p => ∃ j, j < r ∧ p = MemPlace.cell (w.heap.size + 1) (0 + 0 * 1 + j)) HK.out hup.kept ?_
    rintro p ⟨j, _, rfl⟩
    simp [MemPlace.block]
  clear hup hcells hcm c0 c1 c2
  go_wp2
  · go_ret
    refine ⟨?_, HF.out⟩
    rw [HP.out]; rfl
  · have ht : (!l == t.toList) = false := by assumption
    have ht' : t = ⟨l.toArray⟩ := by
      rw [Bool.not_eq_false', beq_iff_eq, ByteArray.toList_eq] at ht
      apply bytes_inj
      rw [← ht]
    have HT : Hid (t = ⟨l.toArray⟩) := ht'
    clear ht ht'
    go_ret
    refine ⟨?_, HF.out⟩
    rw [HP.out, ← HT.out]; rfl

set_option maxHeartbeats 400000 in
theorem zzPlainText_any (neg : Bool) (s t : ByteArray) (exp : Int) (hl : s.size ≤ 65536) (h1 : -65536 ≤ exp) (h2 : exp ≤ 65536) (w : World) :
    Calls Try.prog 21 #[.bool neg, .string s, .int .i64 exp, .string t] w fun e w' => e = .returned (.string ⟨(plainTxt neg s.data.toList exp).toArray⟩) ∧ w.keptBut w' (fun _ => False) := by
  go_enter Try.func21, Try.ntmps21
  go_wp2_with fail
  refine (plainText_any neg s t exp hl h1 h2 _).mono ?_
  rintro e w' ⟨rfl, hk⟩
  have HK : Hid (w.keptBut w' (fun _ => False)) := hk
  clear hk
  generalize hpl : plainTxt neg s.data.toList exp = l
  have HP : Hid (plainTxt neg s.data.toList exp = l) := hpl
  clear hpl
  go_wp2
  go_ret
  refine ⟨?_, HK.out⟩
  rw [HP.out]; rfl
end Go.Proofs.Qxb6001720a
