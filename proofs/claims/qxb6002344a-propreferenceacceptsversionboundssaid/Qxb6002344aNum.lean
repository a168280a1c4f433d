/- THE WALKS OF zzc5IsNum, zzc5DecSign, zzc5Sign, compareNumbers (seat b6002344a). -/
import Derived.Test.Qxb6002344aProg
import Derived.Test.Qxb6002344aDec
import Derived.WalkKit
import Derived.LoopTactic
import Derived.Lib.Bytealg
namespace Go.Proofs.Qxb6002344a.Num
open Go.RowKit Dec

theorem ret_bool {a b : Bool} (h : a = b) : Ending.returned (.bool a) = .returned (.bool b) := by rw [h]
theorem ret_int {k : IntKind} {a b : Int} (h : a = b) : Ending.returned (.int k a) = .returned (.int k b) := by rw [h]

theorem byte_getD (s : ByteArray) (k : Nat) (h : k < s.size) : s[k] = s.data.toList.getD k 48 := by
  have h' : k < s.data.toList.length := by rw [← Lib.size_eq]; exact h
  rw [List.getD_eq_getElem?_getD, List.getElem?_eq_getElem h']; rfl

set_option maxHeartbeats 400000 in
theorem isNum_any (s : ByteArray) (w : World) (hs : s.size ≤ maxLen) :
    Calls Try.prog 31 #[.string s] w fun e w' => e = .returned (.bool (isNum s.data.toList)) ∧ w' = w := by
  unfold maxLen at hs
  have hsz := Lib.size_eq s
  by_cases h0 : s.size = 0
  · have e := isNum_nil (l := s.data.toList) (by omega)
    rw [e]
    clear e hsz
    go_enter Try.func31, Try.ntmps31
    go_wp2
    go_ret
    exact ⟨rfl, rfl⟩
  have HZ : Hid (s.size = s.data.toList.length) := hsz
  clear hsz
  go_enter Try.func31, Try.ntmps31
  go_wp2
  go_loop [3] (fun i => ∃ k : Nat, k ≤ s.size ∧ i = .int .i64 k ∧ digTo s.data.toList k) (fun i => s.size - (intOf i).toNat)
  case atStart => exact ⟨0, Nat.zero_le _, rfl, digTo_zero _⟩
  case round =>
    obtain ⟨k, hk, rfl, H⟩ := hrel
    by_cases hlt : k < s.size
    · have hb := byte_getD s k hlt
      have HB : Hid (s[k] = s.data.toList.getD k 48) := hb
      clear hb
      by_cases hd : 48 ≤ s[k].toNat ∧ s[k].toNat ≤ 57
      · obtain ⟨hd1, hd2⟩ := hd
        have hn := digTo_succ (by rw [← HZ.out]; exact hlt) H (by rw [← HB.out]; exact hd1) (by rw [← HB.out]; exact hd2)
        go_wp2
        go_round
        case rel => exact ⟨k + 1, by omega, by go_num, hn⟩
        case measure => simp [intOf]; omega
      · have hn := isNum_bad (not_allDig (k := k) (by rw [← HZ.out]; exact hlt) (by rw [← HB.out]; omega))
        have HN : Hid (false = isNum s.data.toList) := hn.symm
        clear hn
        by_cases hd1 : s[k].toNat < 48
        · clear hd
          go_wp2
          go_ret
          exact ⟨ret_bool HN.out, rfl⟩
        · have hd2 : 57 < s[k].toNat := by omega
          clear hd
          go_wp2
          go_ret
          exact ⟨ret_bool HN.out, rfl⟩
    · have hall := digTo_all H (by rw [← HZ.out]; omega)
      have hm := isNum_more hall (by rw [← HZ.out]; omega)
      by_cases h1 : s.size = 1
      · have e := isNum_one hall (by rw [← HZ.out]; omega)
        have HN : Hid (true = isNum s.data.toList) := e.symm
        clear hm e
        go_wp2
        go_ret
        exact ⟨ret_bool HN.out, rfl⟩
      · have HM : Hid _ := hm
        clear hm
        have hp : 0 < s.size := by omega
        go_wp2
        go_ret
        refine ⟨ret_bool ?_, rfl⟩
        rw [← HM.out, ← byte_getD s 0 hp, ← HZ.out]

theorem dg_byte (s : ByteArray) (k : Nat) (h : k < s.size) : dg s.data.toList k = ((s[s.size - 1 - k]'(by omega)).toNat : Int) - 48 := by
  unfold dg
  rw [if_pos (by rw [← Lib.size_eq]; exact h), byte_getD s _ (by omega), ← Lib.size_eq]

theorem byte_dig (s : ByteArray) (k : Nat) (h : k < s.size) (hd : allDig s.data.toList = true) : 48 ≤ (s[s.size - 1 - k]'(by omega)).toNat ∧ (s[s.size - 1 - k]'(by omega)).toNat ≤ 57 := by
  rw [byte_getD s _ (by omega)]; exact allDig_getD hd (by rw [← Lib.size_eq]; omega)

theorem vint {k : IntKind} {a b : Int} (h : a = b) : Value.int k a = .int k b := by rw [h]
theorem vbool {a b : Bool} (h : a = b) : Value.bool a = .bool b := by rw [h]

set_option maxHeartbeats 1000000 in
theorem decSign_any (a b : ByteArray) (w : World) (ha : a.size ≤ maxLen) (hb : b.size ≤ maxLen) (da : allDig a.data.toList = true) (db : allDig b.data.toList = true) :
    Calls Try.prog 34 #[.string a, .string b] w fun e w' => e = .returned (.int .i64 (decSign a.data.toList b.data.toList)) ∧ w' = w := by
  unfold maxLen at ha hb
  have HA : Hid (a.size = a.data.toList.length) := Lib.size_eq a
  have HB : Hid (b.size = b.data.toList.length) := Lib.size_eq b
  have DA : Hid (allDig a.data.toList = true) := da
  have DB : Hid (allDig b.data.toList = true) := db
  clear da db
  by_cases hab : a.size < b.size
  · have HM : Hid (decSign a.data.toList b.data.toList = cmpLow a.data.toList b.data.toList b.size) := by
      show decSign _ _ = _
      unfold decSign
      rw [← HA.out, ← HB.out]
      rw [if_pos hab]
    go_enter Try.func34, Try.ntmps34
    go_wp2
    go_loop [6, 7, 8] (fun x z i => ∃ (k : Nat) (c : Int), k ≤ b.size ∧ i = .int .i64 k ∧ Hid (c = cmpLow a.data.toList b.data.toList k) ∧ x = .int .i64 (bor c) ∧ z = .bool (nz c)) (fun _ _ i => b.size - (intOf i).toNat)
    case atStart => exact ⟨0, 0, Nat.zero_le _, rfl, rfl, rfl, rfl⟩
    case round =>
      obtain ⟨k, c, hk, rfl, HC, rfl, rfl⟩ := hrel
      have hbc := bor_range c
      by_cases hlt : k < b.size
      · by_cases hka : k < a.size
        · have hxa := byte_dig a k (by omega) DA.out
          have hxb := byte_dig b k (by omega) DB.out
          have HX : Hid (_ = dg a.data.toList k) := (dg_byte a k (by omega)).symm
          have HY : Hid (_ = dg b.data.toList k) := (dg_byte b k (by omega)).symm
          have S := Dec.step HC.out (x := ((a[a.size - 1 - k]'(by omega)).toNat - 48 : Int)) (y := ((b[b.size - 1 - k]'(by omega)).toNat - 48 : Int)) HX.out HY.out (by omega) (by omega) (by omega) (by omega)
          have HS : Hid _ := S
          clear S
          by_cases hneg : ((a[a.size - 1 - k]'(by omega)).toNat - 48 : Int) - ((b[b.size - 1 - k]'(by omega)).toNat - 48 : Int) - bor c < 0
          · have T := HS.out.1 hneg
            by_cases hz : ((a[a.size - 1 - k]'(by omega)).toNat - 48 : Int) - ((b[b.size - 1 - k]'(by omega)).toNat - 48 : Int) - bor c + 10 = 0
            · have HT : Hid (_ ∧ _) := And.intro T.1 (T.2.2 hz)
              clear T
              go_wp2
              go_round
              case rel => exact ⟨k + 1, _, by omega, by go_num, rfl, vint HT.out.1.symm, vbool HT.out.2.symm⟩
              case measure => simp [intOf]; omega
            · have HT : Hid (_ ∧ _) := And.intro T.1 (T.2.1 hz)
              clear T
              go_wp2
              go_round
              case rel => exact ⟨k + 1, _, by omega, by go_num, rfl, vint HT.out.1.symm, vbool HT.out.2.symm⟩
              case measure => simp [intOf]; omega
          · have T := HS.out.2 (by omega)
            by_cases hz : ((a[a.size - 1 - k]'(by omega)).toNat - 48 : Int) - ((b[b.size - 1 - k]'(by omega)).toNat - 48 : Int) - bor c = 0
            · have HT : Hid (_ ∧ _) := And.intro T.1 (T.2.2 hz)
              clear T
              go_wp2
              go_round
              case rel => exact ⟨k + 1, _, by omega, by go_num, rfl, vint HT.out.1.symm, vbool HT.out.2.symm⟩
              case measure => simp [intOf]; omega
            · have HT : Hid (_ ∧ _) := And.intro T.1 (T.2.1 hz)
              clear T
              go_wp2
              go_round
              case rel => exact ⟨k + 1, _, by omega, by go_num, rfl, vint HT.out.1.symm, vbool HT.out.2.symm⟩
              case measure => simp [intOf]; omega
        · have hxb := byte_dig b k (by omega) DB.out
          have HX : Hid (_ = dg a.data.toList k) := (dg_beyond (l := a.data.toList) (k := k) (by rw [← HA.out]; omega)).symm
          have HY : Hid (_ = dg b.data.toList k) := (dg_byte b k (by omega)).symm
          have S := Dec.step HC.out (x := (0 : Int)) (y := ((b[b.size - 1 - k]'(by omega)).toNat - 48 : Int)) HX.out HY.out (by omega) (by omega) (by omega) (by omega)
          have HS : Hid _ := S
          clear S
          by_cases hneg : (0 : Int) - ((b[b.size - 1 - k]'(by omega)).toNat - 48 : Int) - bor c < 0
          · have T := HS.out.1 hneg
            by_cases hz : (0 : Int) - ((b[b.size - 1 - k]'(by omega)).toNat - 48 : Int) - bor c + 10 = 0
            · have HT : Hid (_ ∧ _) := And.intro T.1 (T.2.2 hz)
              clear T
              go_wp2
              go_round
              case rel => exact ⟨k + 1, _, by omega, by go_num, rfl, vint HT.out.1.symm, vbool HT.out.2.symm⟩
              case measure => simp [intOf]; omega
            · have HT : Hid (_ ∧ _) := And.intro T.1 (T.2.1 hz)
              clear T
              go_wp2
              go_round
              case rel => exact ⟨k + 1, _, by omega, by go_num, rfl, vint HT.out.1.symm, vbool HT.out.2.symm⟩
              case measure => simp [intOf]; omega
          · have T := HS.out.2 (by omega)
            by_cases hz : (0 : Int) - ((b[b.size - 1 - k]'(by omega)).toNat - 48 : Int) - bor c = 0
            · have HT : Hid (_ ∧ _) := And.intro T.1 (T.2.2 hz)
              clear T
              go_wp2
              go_round
              case rel => exact ⟨k + 1, _, by omega, by go_num, rfl, vint HT.out.1.symm, vbool HT.out.2.symm⟩
              case measure => simp [intOf]; omega
            · exfalso
              omega
      · have hke : k = b.size := by omega
        have HE : Hid (c = decSign a.data.toList b.data.toList) := by
          show c = _
          rw [HM.out, HC.out, hke]
        have hr := cmpLow_range a.data.toList b.data.toList k
        rw [← HC.out] at hr
        clear hke
        rcases hr with rfl | rfl | rfl
        · simp only [bor, nz]
          go_wp2
          go_ret
          exact ⟨ret_int HE.out, rfl⟩
        · simp only [bor, nz]
          go_wp2
          go_ret
          exact ⟨ret_int HE.out, rfl⟩
        · simp only [bor, nz]
          go_wp2
          go_ret
          exact ⟨ret_int HE.out, rfl⟩
  · have HM : Hid (decSign a.data.toList b.data.toList = cmpLow a.data.toList b.data.toList a.size) := by
      show decSign _ _ = _
      unfold decSign
      rw [← HA.out, ← HB.out]
      rw [if_neg hab]
    go_enter Try.func34, Try.ntmps34
    go_wp2
    go_loop [6, 7, 8] (fun x z i => ∃ (k : Nat) (c : Int), k ≤ a.size ∧ i = .int .i64 k ∧ Hid (c = cmpLow a.data.toList b.data.toList k) ∧ x = .int .i64 (bor c) ∧ z = .bool (nz c)) (fun _ _ i => a.size - (intOf i).toNat)
    case atStart => exact ⟨0, 0, Nat.zero_le _, rfl, rfl, rfl, rfl⟩
    case round =>
      obtain ⟨k, c, hk, rfl, HC, rfl, rfl⟩ := hrel
      have hbc := bor_range c
      by_cases hlt : k < a.size
      · by_cases hka : k < b.size
        · have hxa := byte_dig a k (by omega) DA.out
          have hxb := byte_dig b k (by omega) DB.out
          have HX : Hid (_ = dg a.data.toList k) := (dg_byte a k (by omega)).symm
          have HY : Hid (_ = dg b.data.toList k) := (dg_byte b k (by omega)).symm
          have S := Dec.step HC.out (x := ((a[a.size - 1 - k]'(by omega)).toNat - 48 : Int)) (y := ((b[b.size - 1 - k]'(by omega)).toNat - 48 : Int)) HX.out HY.out (by omega) (by omega) (by omega) (by omega)
          have HS : Hid _ := S
          clear S
          by_cases hneg : ((a[a.size - 1 - k]'(by omega)).toNat - 48 : Int) - ((b[b.size - 1 - k]'(by omega)).toNat - 48 : Int) - bor c < 0
          · have T := HS.out.1 hneg
            by_cases hz : ((a[a.size - 1 - k]'(by omega)).toNat - 48 : Int) - ((b[b.size - 1 - k]'(by omega)).toNat - 48 : Int) - bor c + 10 = 0
            · have HT : Hid (_ ∧ _) := And.intro T.1 (T.2.2 hz)
              clear T
              go_wp2
              go_round
              case rel => exact ⟨k + 1, _, by omega, by go_num, rfl, vint HT.out.1.symm, vbool HT.out.2.symm⟩
              case measure => simp [intOf]; omega
            · have HT : Hid (_ ∧ _) := And.intro T.1 (T.2.1 hz)
              clear T
              go_wp2
              go_round
              case rel => exact ⟨k + 1, _, by omega, by go_num, rfl, vint HT.out.1.symm, vbool HT.out.2.symm⟩
              case measure => simp [intOf]; omega
          · have T := HS.out.2 (by omega)
            by_cases hz : ((a[a.size - 1 - k]'(by omega)).toNat - 48 : Int) - ((b[b.size - 1 - k]'(by omega)).toNat - 48 : Int) - bor c = 0
            · have HT : Hid (_ ∧ _) := And.intro T.1 (T.2.2 hz)
              clear T
              go_wp2
              go_round
              case rel => exact ⟨k + 1, _, by omega, by go_num, rfl, vint HT.out.1.symm, vbool HT.out.2.symm⟩
              case measure => simp [intOf]; omega
            · have HT : Hid (_ ∧ _) := And.intro T.1 (T.2.1 hz)
              clear T
              go_wp2
              go_round
              case rel => exact ⟨k + 1, _, by omega, by go_num, rfl, vint HT.out.1.symm, vbool HT.out.2.symm⟩
              case measure => simp [intOf]; omega
        · have hxa := byte_dig a k (by omega) DA.out
          have HX : Hid (_ = dg a.data.toList k) := (dg_byte a k (by omega)).symm
          have HY : Hid (_ = dg b.data.toList k) := (dg_beyond (l := b.data.toList) (k := k) (by rw [← HB.out]; omega)).symm
          have S := Dec.step HC.out (x := ((a[a.size - 1 - k]'(by omega)).toNat - 48 : Int)) (y := (0 : Int)) HX.out HY.out (by omega) (by omega) (by omega) (by omega)
          have HS : Hid _ := S
          clear S
          by_cases hneg : ((a[a.size - 1 - k]'(by omega)).toNat - 48 : Int) - (0 : Int) - bor c < 0
          · have T := HS.out.1 hneg
            by_cases hz : ((a[a.size - 1 - k]'(by omega)).toNat - 48 : Int) - (0 : Int) - bor c + 10 = 0
            · exfalso
              omega
            · have HT : Hid (_ ∧ _) := And.intro T.1 (T.2.1 hz)
              clear T
              go_wp2
              go_round
              case rel => exact ⟨k + 1, _, by omega, by go_num, rfl, vint HT.out.1.symm, vbool HT.out.2.symm⟩
              case measure => simp [intOf]; omega
          · have T := HS.out.2 (by omega)
            by_cases hz : ((a[a.size - 1 - k]'(by omega)).toNat - 48 : Int) - (0 : Int) - bor c = 0
            · have HT : Hid (_ ∧ _) := And.intro T.1 (T.2.2 hz)
              clear T
              go_wp2
              go_round
              case rel => exact ⟨k + 1, _, by omega, by go_num, rfl, vint HT.out.1.symm, vbool HT.out.2.symm⟩
              case measure => simp [intOf]; omega
            · have HT : Hid (_ ∧ _) := And.intro T.1 (T.2.1 hz)
              clear T
              go_wp2
              go_round
              case rel => exact ⟨k + 1, _, by omega, by go_num, rfl, vint HT.out.1.symm, vbool HT.out.2.symm⟩
              case measure => simp [intOf]; omega
      · have hke : k = a.size := by omega
        have HE : Hid (c = decSign a.data.toList b.data.toList) := by
          show c = _
          rw [HM.out, HC.out, hke]
        have hr := cmpLow_range a.data.toList b.data.toList k
        rw [← HC.out] at hr
        clear hke
        rcases hr with rfl | rfl | rfl
        · simp only [bor, nz]
          go_wp2
          go_ret
          exact ⟨ret_int HE.out, rfl⟩
        · simp only [bor, nz]
          go_wp2
          go_ret
          exact ⟨ret_int HE.out, rfl⟩
        · simp only [bor, nz]
          go_wp2
          go_ret
          exact ⟨ret_int HE.out, rfl⟩
end Go.Proofs.Qxb6002344a.Num
