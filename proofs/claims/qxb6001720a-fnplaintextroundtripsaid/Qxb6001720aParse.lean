import Derived.Test.Qxb6001720aCanon
import Derived.Test.Qxb6001720aParsePlain
import Derived.BigQuiet
import Derived.Deep.QuietTactic
namespace Go.Proofs.Qxb6001720a
open Go.ChangeShapes Go.WideShapes Go.ChangeAt Go.RowKit

theorem came_nil (W : World) : Came W 1 none 0 0 0 0 [] :=
  ⟨Nat.le_refl _, fun h => absurd h (Nat.lt_irrefl _), fun h => absurd h (Nat.lt_irrefl _), rfl, fun _ _ h => by simp at h, fun _ h => by simp at h⟩

/-- behind appends to a nil slice nothing old has turned -/
theorem kept_of_nil {W w : World} {v : Value} {m : Nat} {ks : List Value} {r : Nat} (h : Upon W 5 1 none 0 0 0 0 [] w v m ks r) : W.keptBut w (fun _ => False) := by
  refine kept_new h.kept ?_
  rintro p ⟨j, hj, _⟩
  have := h.rFit
  omega

theorem upon_push {W w : World} {v : Value} {l : List UInt8} {c : UInt8} {r : Nat} (h : Upon W 5 1 none 0 0 0 0 [] w v (l.length + 1) (cellsOf l ++ [.int .u8 (c.toNat : Int)]) r) :
    Upon W 5 1 none 0 0 0 0 [] w v (l ++ [c]).length (cellsOf (l ++ [c])) r := by
  have e : cellsOf (l ++ [c]) = cellsOf l ++ [.int .u8 (c.toNat : Int)] := by simp [cellsOf]
  rw [e, List.length_append]; exact h

/-- string(all[k:m]) -/
theorem conv_mid (w : World) (g o cap : Nat) (l : List UInt8) (k m : Nat) (hk : k ≤ m) (hm : m ≤ l.length) (hc : ∀ j (hj : j < l.length), w.cell? ⟨g, o + j, none⟩ = some (.int .u8 (l[j].toNat : Int))) :
    (convert 22 9 (.slice (some ⟨g, o + k, none⟩) (m - k) (cap - k))).run Try.prog w = .ok (.string ⟨((l.drop k).take (m - k)).toArray⟩) w := by
  have hl : ((l.drop k).take (m - k)).length = m - k := by rw [List.length_take, List.length_drop]; omega
  have := run_convert_bytes_back w 22 9 5 ⟨g, o + k, none⟩ (cap - k) ((l.drop k).take (m - k)) Try.underlying22 Try.underlying5 Try.underlying9 (fun j hj => by
    rw [Addr.add_lit, Nat.add_assoc, hc (k + j) (by omega)]
    simp)
  rw [hl] at this
  exact this

/-- the bytes from p on are digits and at most one dot -/
def Good (t : ByteArray) (p : Nat) : Prop :=
  ∀ i (h : i < t.size), p ≤ i → (t[i] = 46 ∧ dotOf t p i = false) ∨ (t[i] ≠ 46 ∧ 48 ≤ (t[i].toNat : Int) ∧ (t[i].toNat : Int) ≤ 57)

/-- l is z1 zeros, then what is not zero at either end, then zeros from h on -/
def Trim (l : List UInt8) (z1 h : Nat) : Prop :=
  z1 ≤ h ∧ h ≤ l.length ∧ (∀ j, j < z1 → l[j]? = some 48) ∧ (z1 < l.length → l[z1]? ≠ some 48) ∧ (∀ j, h ≤ j → j < l.length → l[j]? = some 48) ∧ (z1 < h → l[h - 1]? ≠ some 48)

/-- what zzParsePlain hands back -/
def parsed (neg : Bool) (l : List UInt8) (E z1 h : Nat) : Value :=
  if z1 = h then .tuple #[.bool false, .string ⟨#[]⟩, .int .i64 0, .bool true]
  else .tuple #[.bool neg, .string ⟨((l.drop z1).take (h - z1)).toArray⟩, .int .i64 ((E : Int) - z1), .bool true]

def ParsePost (neg : Bool) (t : ByteArray) (p z1 h : Nat) (w : World) (e : Ending) (w' : World) : Prop :=
  e = .returned (parsed neg (digsOf t p t.size) (intLenOf t p t.size) z1 h) ∧ w.keptBut w' (fun _ => False)

set_option maxHeartbeats 2000000 in
theorem parse_true (t : ByteArray) (z1 h : Nat) (hs : t.size ≤ 1048576) (h0 : 0 < t.size) (hc0 : ((t[0].toNat : Int) == 45) = true) (hgood : Good t 1) (htrim : Trim (digsOf t 1 t.size) z1 h) (hpos : 0 < (digsOf t 1 t.size).length) (w : World) :
    Calls Try.prog 24 #[.string t] w fun e w' => ParsePost true t 1 z1 h w e w' := by
  obtain ⟨i0, hi, hz0, hz1, hz2⟩ := info_parts Try.info5
  have hcn := came_nil w
  have HG : Hid (Good t 1) := hgood
  have HT : Hid (Trim (digsOf t 1 t.size) z1 h) := htrim
  have HP : Hid (0 < (digsOf t 1 t.size).length) := hpos
  clear hgood htrim hpos
  go_enter Try.func24, Try.ntmps24
  go_wp2
  go_loopw [7, 8, 9, 10] (fun ti tv tn tb wr => ∃ i r, 1 ≤ i ∧ i ≤ t.size ∧ ti = .int .i64 (i : Nat) ∧ tn = .int .i64 (intLenOf t 1 i) ∧ tb = .bool (dotOf t 1 i) ∧ Upon w 5 1 none 0 0 0 0 [] wr tv (digsOf t 1 i).length (cellsOf (digsOf t 1 i)) r) (fun ti _ _ _ _ => t.size - (intOf ti).toNat)
  case atStart =>
    refine ⟨1, 0, by omega, by omega, rfl, ?_, ?_, ?_⟩
    · simp [intLenOf, preOf_start]
    · simp [dotOf, preOf_start]
    · simpa [digsOf, preOf_start, cellsOf] using Upon.start (e := 5) hcn
  case round =>
    obtain ⟨i, r, hi1, hi2, rfl, rfl, rfl, hup⟩ := hrel
    have hil := intLenOf_le t 1 i
    have hdl := digsOf_length_le t 1 i
    by_cases hlt : i < t.size
    · rcases HG.out i hlt hi1 with ⟨hc, hd⟩ | ⟨hc, d1, d2⟩
      · have hc' : ((t[i].toNat : Int) == 46) = true := by rw [hc]; rfl
        have HU : Hid (Upon w 5 1 none 0 0 0 0 [] wr u8 (digsOf t 1 (i + 1)).length (cellsOf (digsOf t 1 (i + 1))) r) := by rw [digsOf_dot t 1 i hi1 hlt hc]; exact hup
        have HI : Hid (intLenOf t 1 (i + 1) = intLenOf t 1 i) := intLenOf_dot t 1 i hi1 hlt hd hc
        have HD : Hid (dotOf t 1 (i + 1) = true) := dotOf_dot t 1 i hi1 hlt hc
        clear hc hup
        rw [hd]
        clear hd
        generalize intLenOf t 1 i = n at *
        go_wp2_with fail
        go_roundw
        case rel => exact ⟨i + 1, r, by omega, by omega, by go_num, by rw [HI.out], by rw [HD.out], HU.out⟩
        case measure => simp [intOf]; omega
      · have hc' : ((t[i].toNat : Int) == 46) = false := by
          rw [beq_eq_false_iff_ne]
          intro he
          exact hc (UInt8.toNat_inj.1 (by show t[i].toNat = 46; omega))
        have hds := digsOf_digit t 1 i hi1 hlt hc
        have hdt := dotOf_digit t 1 i hi1 hlt hc
        have HDS : Hid (digsOf t 1 (i + 1) = digsOf t 1 i ++ [t[i]]) := hds
        have HDT : Hid (dotOf t 1 (i + 1) = dotOf t 1 i) := hdt
        clear hds hdt
        cases hd : dotOf t 1 i
        · have HI : Hid (intLenOf t 1 (i + 1) = intLenOf t 1 i + 1) := intLenOf_digit t 1 i hi1 hlt hd hc
          have HD : Hid (dotOf t 1 i = false) := hd
          clear hd hc
          generalize intLenOf t 1 i = n at *
          go_wp2_with (first | (go_at_call 18; refine (isDigit_yes _ d1 d2 _).mono ?_; rintro e w' ⟨rfl, rfl⟩) | (at_builtin; refine wpList_append_upon _ rfl (.tmp 42) (.tmp 44) 22 22 rfl hcn i0 (.int .u8 0) 1 Try.underlying22 hi hz0 hz1 hz2 rfl rfl (hup.alloc hcn _) _ 1 [.int .u8 (t[i].toNat : Int)] rfl (src_one _ _) (by unfold maxLen; omega) (by omega) ?_; intro v' w' hup'))
          go_roundw
          case rel =>
            have HU := upon_push hup'
            rw [← HDS.out] at HU
            exact ⟨i + 1, _, by omega, by omega, by go_num, by rw [HI.out]; go_num, by rw [HDT.out, HD.out], HU⟩
          case measure => simp [intOf]; omega
        · have HI : Hid (intLenOf t 1 (i + 1) = intLenOf t 1 i) := intLenOf_dotted t 1 i hi1 hlt hd
          have HD : Hid (dotOf t 1 i = true) := hd
          clear hd hc
          generalize intLenOf t 1 i = n at *
          go_wp2_with (first | (go_at_call 18; refine (isDigit_yes _ d1 d2 _).mono ?_; rintro e w' ⟨rfl, rfl⟩) | (at_builtin; refine wpList_append_upon _ rfl (.tmp 42) (.tmp 44) 22 22 rfl hcn i0 (.int .u8 0) 1 Try.underlying22 hi hz0 hz1 hz2 rfl rfl (hup.alloc hcn _) _ 1 [.int .u8 (t[i].toNat : Int)] rfl (src_one _ _) (by unfold maxLen; omega) (by omega) ?_; intro v' w' hup'))
          go_roundw
          case rel =>
            have HU := upon_push hup'
            rw [← HDS.out] at HU
            exact ⟨i + 1, _, by omega, by omega, by go_num, by rw [HI.out], by rw [HDT.out, HD.out], HU⟩
          case measure => simp [intOf]; omega
    · obtain rfl : i = t.size := by omega
      obtain ⟨T1, T2, T3, T4, T5, T6⟩ := HT.out
      have HK : Hid (w.keptBut wr (fun _ => False)) := kept_of_nil hup
      obtain ⟨g, o', cap', rfl, hle, hcm, hcells⟩ := hup.value hcn (by unfold maxLen; omega) (.inr HP.out)
      have HC : Hid (∀ j (hj : j < (digsOf t 1 t.size).length), wr.cell? ⟨g, o' + j, none⟩ = some (.int .u8 ((digsOf t 1 t.size)[j].toNat : Int))) := by
        intro j hj
        rw [hcells j (by omega)]
        simp [cellsOf, hj]
      have hp0 : 0 < (digsOf t 1 t.size).length := HP.out
      rw [Nat.zero_add] at *
      clear hcells hup
      generalize hE : intLenOf t 1 t.size = E at *
      have HE : Hid (intLenOf t 1 t.size = E) := hE
      clear hE
      generalize hl : digsOf t 1 t.size = l at *
      have HL : Hid (digsOf t 1 t.size = l) := hl
      clear hl
      have tl : ((l.length : Int) == 0) = false := by rw [beq_eq_false_iff_ne]; omega
      go_wp2_with fail
      go_loop [12, 13] (fun te tl => ∃ k : Nat, k ≤ z1 ∧ tl = .int .i64 k ∧ te = .int .i64 ((E : Int) - k)) (fun _ tl => z1 - (intOf tl).toNat)
      case atStart => exact ⟨0, Nat.zero_le _, rfl, by simp⟩
      case round =>
        obtain ⟨k, hk, rfl, rfl⟩ := hrel
        by_cases hkz : k < z1
        · have hkl : k < l.length := by omega
          have hck : wr.cell? ⟨g, o' + k, none⟩ = some (.int .u8 48) := by
            rw [HC.out k hkl]
            have := T3 k hkz
            rw [List.getElem?_eq_getElem hkl] at this
            rw [Option.some.inj this]; rfl
          go_wp2_with fail
          go_round
          case rel => exact ⟨k + 1, by omega, by go_num, by go_num⟩
          case measure => simp [intOf]; omega
        · obtain rfl : k = z1 := by omega
          by_cases hkl : k < l.length
          · have hkh : k < h := by
              by_cases e : k = h
              · exact absurd (T5 k (by omega) hkl) (T4 hkl)
              · omega
            obtain ⟨c, hcc⟩ : ∃ c : Int, ((l[k]'hkl).toNat : Int) = c := ⟨_, rfl⟩
            have hcn48 : (c == 48) = false := by
              rw [beq_eq_false_iff_ne]
              intro he
              refine T4 hkl ?_
              rw [List.getElem?_eq_getElem hkl]
              congr 1
              exact UInt8.toNat_inj.1 (by show (l[k]'hkl).toNat = 48; omega)
            have hck : wr.cell? ⟨g, o' + k, none⟩ = some (.int .u8 c) := by rw [HC.out k hkl, hcc]
            clear hcc
            go_wp2_with fail
            clear hck hcn48
            go_loop [14] (fun t14 => ∃ m : Nat, h ≤ m ∧ m ≤ l.length ∧ t14 = .int .i64 m) (fun t14 => (intOf t14).toNat)
            case atStart => exact ⟨l.length, T2, Nat.le_refl _, rfl⟩
            case round =>
              obtain ⟨m, hm1, hm2, rfl⟩ := hrel
              have hm3 : m - 1 < l.length := by omega
              by_cases hmh : h < m
              · have hcm1 : wr.cell? ⟨g, o' + (m - 1), none⟩ = some (.int .u8 48) := by
                  rw [HC.out (m - 1) hm3]
                  have := T5 (m - 1) (by omega) hm3
                  rw [List.getElem?_eq_getElem hm3] at this
                  rw [Option.some.inj this]; rfl
                go_wp2_with fail
                go_round
                case rel => exact ⟨m - 1, by omega, by omega, by go_num⟩
                case measure => simp [intOf]; omega
              · obtain rfl : m = h := by omega
                obtain ⟨c, hcc⟩ : ∃ c : Int, ((l[m - 1]'hm3).toNat : Int) = c := ⟨_, rfl⟩
                have hcn48 : (c == 48) = false := by
                  rw [beq_eq_false_iff_ne]
                  intro he
                  refine T6 hkh ?_
                  rw [List.getElem?_eq_getElem hm3]
                  congr 1
                  exact UInt8.toNat_inj.1 (by show (l[m - 1]'hm3).toNat = 48; omega)
                have hcm1 : wr.cell? ⟨g, o' + (m - 1), none⟩ = some (.int .u8 c) := by rw [HC.out (m - 1) hm3, hcc]
                have hne : ((k : Int) == (m : Int)) = false := by rw [beq_eq_false_iff_ne]; omega
                clear hcc
                have hconv := conv_mid wr.drew g o' cap' l k m (by omega) (by omega) (fun j hj => HC.out j hj)
                go_wp2_with fail
                go_region
                generalize hseg : (l.drop k).take (m - k) = seg at *
                have HSG : Hid ((l.drop k).take (m - k) = seg) := hseg
                clear hseg hconv
                go_wp2
                refine bodyPost_ret (v := .tuple #[.bool true, .string ⟨seg.toArray⟩, .int .i64 ((E : Int) - k), .bool true]) (by simp [results, Try.results24, go_sem]) rfl ⟨?_, HK.out⟩
                rw [HL.out, HE.out]
                unfold parsed
                rw [if_neg (by omega), HSG.out]
          · obtain rfl : k = l.length := by omega
            obtain rfl : h = l.length := by omega
            go_wp2_with fail
            go_loop [14] (fun t14 => t14 = .int .i64 l.length) (fun _ => 0)
            case atStart => exact rfl
            case round =>
              subst hrel
              have hne : ((l.length : Int) == (l.length : Int)) = true := by simp
              go_wp2_with fail
              refine bodyPost_ret (v := .tuple #[.bool false, .string ⟨#[]⟩, .int .i64 0, .bool true]) (by simp [results, Try.results24, go_sem]) rfl ⟨?_, HK.out⟩
              rw [HL.out, HE.out]
              simp [parsed]

set_option maxHeartbeats 2000000 in
theorem parse_false (t : ByteArray) (z1 h : Nat) (hs : t.size ≤ 1048576) (h0 : 0 < t.size) (hc0 : ((t[0].toNat : Int) == 45) = false) (hgood : Good t 0) (htrim : Trim (digsOf t 0 t.size) z1 h) (hpos : 0 < (digsOf t 0 t.size).length) (w : World) :
    Calls Try.prog 24 #[.string t] w fun e w' => ParsePost false t 0 z1 h w e w' := by
  obtain ⟨i0, hi, hz0, hz1, hz2⟩ := info_parts Try.info5
  have hcn := came_nil w
  have HG : Hid (Good t 0) := hgood
  have HT : Hid (Trim (digsOf t 0 t.size) z1 h) := htrim
  have HP : Hid (0 < (digsOf t 0 t.size).length) := hpos
  clear hgood htrim hpos
  go_enter Try.func24, Try.ntmps24
  go_wp2
  go_loopw [7, 8, 9, 10] (fun ti tv tn tb wr => ∃ i r, 0 ≤ i ∧ i ≤ t.size ∧ ti = .int .i64 (i : Nat) ∧ tn = .int .i64 (intLenOf t 0 i) ∧ tb = .bool (dotOf t 0 i) ∧ Upon w 5 1 none 0 0 0 0 [] wr tv (digsOf t 0 i).length (cellsOf (digsOf t 0 i)) r) (fun ti _ _ _ _ => t.size - (intOf ti).toNat)
  case atStart =>
    refine ⟨0, 0, by omega, by omega, rfl, ?_, ?_, ?_⟩
    · simp [intLenOf, preOf_start]
    · simp [dotOf, preOf_start]
    · simpa [digsOf, preOf_start, cellsOf] using Upon.start (e := 5) hcn
  case round =>
    obtain ⟨i, r, hi1, hi2, rfl, rfl, rfl, hup⟩ := hrel
    have hil := intLenOf_le t 0 i
    have hdl := digsOf_length_le t 0 i
    by_cases hlt : i < t.size
    · rcases HG.out i hlt hi1 with ⟨hc, hd⟩ | ⟨hc, d1, d2⟩
      · have hc' : ((t[i].toNat : Int) == 46) = true := by rw [hc]; rfl
        have HU : Hid (Upon w 5 1 none 0 0 0 0 [] wr u8 (digsOf t 0 (i + 1)).length (cellsOf (digsOf t 0 (i + 1))) r) := by rw [digsOf_dot t 0 i hi1 hlt hc]; exact hup
        have HI : Hid (intLenOf t 0 (i + 1) = intLenOf t 0 i) := intLenOf_dot t 0 i hi1 hlt hd hc
        have HD : Hid (dotOf t 0 (i + 1) = true) := dotOf_dot t 0 i hi1 hlt hc
        clear hc hup
        rw [hd]
        clear hd
        generalize intLenOf t 0 i = n at *
        go_wp2_with fail
        go_roundw
        case rel => exact ⟨i + 1, r, by omega, by omega, by go_num, by rw [HI.out], by rw [HD.out], HU.out⟩
        case measure => simp [intOf]; omega
      · have hc' : ((t[i].toNat : Int) == 46) = false := by
          rw [beq_eq_false_iff_ne]
          intro he
          exact hc (UInt8.toNat_inj.1 (by show t[i].toNat = 46; omega))
        have hds := digsOf_digit t 0 i hi1 hlt hc
        have hdt := dotOf_digit t 0 i hi1 hlt hc
        have HDS : Hid (digsOf t 0 (i + 1) = digsOf t 0 i ++ [t[i]]) := hds
        have HDT : Hid (dotOf t 0 (i + 1) = dotOf t 0 i) := hdt
        clear hds hdt
        cases hd : dotOf t 0 i
        · have HI : Hid (intLenOf t 0 (i + 1) = intLenOf t 0 i + 1) := intLenOf_digit t 0 i hi1 hlt hd hc
          have HD : Hid (dotOf t 0 i = false) := hd
          clear hd hc
          generalize intLenOf t 0 i = n at *
          go_wp2_with (first | (go_at_call 18; refine (isDigit_yes _ d1 d2 _).mono ?_; rintro e w' ⟨rfl, rfl⟩) | (at_builtin; refine wpList_append_upon _ rfl (.tmp 42) (.tmp 44) 22 22 rfl hcn i0 (.int .u8 0) 1 Try.underlying22 hi hz0 hz1 hz2 rfl rfl (hup.alloc hcn _) _ 1 [.int .u8 (t[i].toNat : Int)] rfl (src_one _ _) (by unfold maxLen; omega) (by omega) ?_; intro v' w' hup'))
          go_roundw
          case rel =>
            have HU := upon_push hup'
            rw [← HDS.out] at HU
            exact ⟨i + 1, _, by omega, by omega, by go_num, by rw [HI.out]; go_num, by rw [HDT.out, HD.out], HU⟩
          case measure => simp [intOf]; omega
        · have HI : Hid (intLenOf t 0 (i + 1) = intLenOf t 0 i) := intLenOf_dotted t 0 i hi1 hlt hd
          have HD : Hid (dotOf t 0 i = true) := hd
          clear hd hc
          generalize intLenOf t 0 i = n at *
          go_wp2_with (first | (go_at_call 18; refine (isDigit_yes _ d1 d2 _).mono ?_; rintro e w' ⟨rfl, rfl⟩) | (at_builtin; refine wpList_append_upon _ rfl (.tmp 42) (.tmp 44) 22 22 rfl hcn i0 (.int .u8 0) 1 Try.underlying22 hi hz0 hz1 hz2 rfl rfl (hup.alloc hcn _) _ 1 [.int .u8 (t[i].toNat : Int)] rfl (src_one _ _) (by unfold maxLen; omega) (by omega) ?_; intro v' w' hup'))
          go_roundw
          case rel =>
            have HU := upon_push hup'
            rw [← HDS.out] at HU
            exact ⟨i + 1, _, by omega, by omega, by go_num, by rw [HI.out], by rw [HDT.out, HD.out], HU⟩
          case measure => simp [intOf]; omega
    · obtain rfl : i = t.size := by omega
      obtain ⟨T1, T2, T3, T4, T5, T6⟩ := HT.out
      have HK : Hid (w.keptBut wr (fun _ => False)) := kept_of_nil hup
      obtain ⟨g, o', cap', rfl, hle, hcm, hcells⟩ := hup.value hcn (by unfold maxLen; omega) (.inr HP.out)
      have HC : Hid (∀ j (hj : j < (digsOf t 0 t.size).length), wr.cell? ⟨g, o' + j, none⟩ = some (.int .u8 ((digsOf t 0 t.size)[j].toNat : Int))) := by
        intro j hj
        rw [hcells j (by omega)]
        simp [cellsOf, hj]
      have hp0 : 0 < (digsOf t 0 t.size).length := HP.out
      rw [Nat.zero_add] at *
      clear hcells hup
      generalize hE : intLenOf t 0 t.size = E at *
      have HE : Hid (intLenOf t 0 t.size = E) := hE
      clear hE
      generalize hl : digsOf t 0 t.size = l at *
      have HL : Hid (digsOf t 0 t.size = l) := hl
      clear hl
      have tl : ((l.length : Int) == 0) = false := by rw [beq_eq_false_iff_ne]; omega
      go_wp2_with fail
      go_loop [12, 13] (fun te tl => ∃ k : Nat, k ≤ z1 ∧ tl = .int .i64 k ∧ te = .int .i64 ((E : Int) - k)) (fun _ tl => z1 - (intOf tl).toNat)
      case atStart => exact ⟨0, Nat.zero_le _, rfl, by simp⟩
      case round =>
        obtain ⟨k, hk, rfl, rfl⟩ := hrel
        by_cases hkz : k < z1
        · have hkl : k < l.length := by omega
          have hck : wr.cell? ⟨g, o' + k, none⟩ = some (.int .u8 48) := by
            rw [HC.out k hkl]
            have := T3 k hkz
            rw [List.getElem?_eq_getElem hkl] at this
            rw [Option.some.inj this]; rfl
          go_wp2_with fail
          go_round
          case rel => exact ⟨k + 1, by omega, by go_num, by go_num⟩
          case measure => simp [intOf]; omega
        · obtain rfl : k = z1 := by omega
          by_cases hkl : k < l.length
          · have hkh : k < h := by
              by_cases e : k = h
              · exact absurd (T5 k (by omega) hkl) (T4 hkl)
              · omega
            obtain ⟨c, hcc⟩ : ∃ c : Int, ((l[k]'hkl).toNat : Int) = c := ⟨_, rfl⟩
            have hcn48 : (c == 48) = false := by
              rw [beq_eq_false_iff_ne]
              intro he
              refine T4 hkl ?_
              rw [List.getElem?_eq_getElem hkl]
              congr 1
              exact UInt8.toNat_inj.1 (by show (l[k]'hkl).toNat = 48; omega)
            have hck : wr.cell? ⟨g, o' + k, none⟩ = some (.int .u8 c) := by rw [HC.out k hkl, hcc]
            clear hcc
            go_wp2_with fail
            clear hck hcn48
            go_loop [14] (fun t14 => ∃ m : Nat, h ≤ m ∧ m ≤ l.length ∧ t14 = .int .i64 m) (fun t14 => (intOf t14).toNat)
            case atStart => exact ⟨l.length, T2, Nat.le_refl _, rfl⟩
            case round =>
              obtain ⟨m, hm1, hm2, rfl⟩ := hrel
              have hm3 : m - 1 < l.length := by omega
              by_cases hmh : h < m
              · have hcm1 : wr.cell? ⟨g, o' + (m - 1), none⟩ = some (.int .u8 48) := by
                  rw [HC.out (m - 1) hm3]
                  have := T5 (m - 1) (by omega) hm3
                  rw [List.getElem?_eq_getElem hm3] at this
                  rw [Option.some.inj this]; rfl
                go_wp2_with fail
                go_round
                case rel => exact ⟨m - 1, by omega, by omega, by go_num⟩
                case measure => simp [intOf]; omega
              · obtain rfl : m = h := by omega
                obtain ⟨c, hcc⟩ : ∃ c : Int, ((l[m - 1]'hm3).toNat : Int) = c := ⟨_, rfl⟩
                have hcn48 : (c == 48) = false := by
                  rw [beq_eq_false_iff_ne]
                  intro he
                  refine T6 hkh ?_
                  rw [List.getElem?_eq_getElem hm3]
                  congr 1
                  exact UInt8.toNat_inj.1 (by show (l[m - 1]'hm3).toNat = 48; omega)
                have hcm1 : wr.cell? ⟨g, o' + (m - 1), none⟩ = some (.int .u8 c) := by rw [HC.out (m - 1) hm3, hcc]
                have hne : ((k : Int) == (m : Int)) = false := by rw [beq_eq_false_iff_ne]; omega
                clear hcc
                have hconv := conv_mid wr.drew g o' cap' l k m (by omega) (by omega) (fun j hj => HC.out j hj)
                go_wp2_with fail
                go_region
                generalize hseg : (l.drop k).take (m - k) = seg at *
                have HSG : Hid ((l.drop k).take (m - k) = seg) := hseg
                clear hseg hconv
                go_wp2
                refine bodyPost_ret (v := .tuple #[.bool false, .string ⟨seg.toArray⟩, .int .i64 ((E : Int) - k), .bool true]) (by simp [results, Try.results24, go_sem]) rfl ⟨?_, HK.out⟩
                rw [HL.out, HE.out]
                unfold parsed
                rw [if_neg (by omega), HSG.out]
          · obtain rfl : k = l.length := by omega
            obtain rfl : h = l.length := by omega
            go_wp2_with fail
            go_loop [14] (fun t14 => t14 = .int .i64 l.length) (fun _ => 0)
            case atStart => exact rfl
            case round =>
              subst hrel
              have hne : ((l.length : Int) == (l.length : Int)) = true := by simp
              go_wp2_with fail
              refine bodyPost_ret (v := .tuple #[.bool false, .string ⟨#[]⟩, .int .i64 0, .bool true]) (by simp [results, Try.results24, go_sem]) rfl ⟨?_, HK.out⟩
              rw [HL.out, HE.out]
              simp [parsed]

end Go.Proofs.Qxb6001720a
