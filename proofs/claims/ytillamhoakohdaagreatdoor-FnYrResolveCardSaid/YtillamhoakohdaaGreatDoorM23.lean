/-
  Walks: the program's whole numbers without a sign. Walks: the program's whole numbers without a sign, their base by a prefix.
-/
import Derived.Lib.AtoiErrMem
import Derived.Test.YtillamhoakohdaaGreatDoorM22
set_option linter.unusedVariables false
set_option linter.unusedSimpArgs false
namespace Go.Proofs.YtillamhoakohdaaGreatDoor
open Go.RowKit

theorem wrap_most : IntKind.u64.wrap (IntKind.u64.wrap 18446744073709551616 - 1) = 18446744073709551615 := by decide

set_option maxRecDepth 100000 in
set_option maxHeartbeats 4000000 in
theorem parseUint_2 (s : ByteArray) (l : Bs) (w : World) (hl : StrIs s l) (hs : s.size ≤ 1000) (hp : 0 < s.size) (h95 : ∀ c ∈ l, c ≠ 95) :
  Calls Tryz.prog 74 #[.string s, .int .i64 2, .int .i64 64] w (UintPost (uintP 2 l) w) := by
 have hne : l ≠ [] := by intro h; have := hl.size; rw [h] at this; rw [show ([] : Bs).length = 0 from rfl] at this; omega
 have he : s.toList.isEmpty = false := by rw [Lib.toList_data, hl]; cases l with | nil => exact absurd rfl hne | cons a b => rfl
 have HU : Hid (uintP 2 l = amt 2 0 l) := Lib.hid (by unfold uintP; rw [if_neg hne, if_neg (by decide)])
 clear hne
 have H9 := Lib.hid h95
 have HL := Lib.hid hl
 clear h95 hl
 go_enter Tryz.func74, Tryz.ntmps74
 go_upto_block 0 with fail
 go_cut [0, 1] (fun sv bv wc => ∃ (d : ByteArray) (D : Bs), sv = .string d ∧ Hid (StrIs d D) ∧ Hid (∀ c ∈ D, c ≠ 95) ∧ d.size ≤ 1000 ∧ Drew w wc ∧ ∃ B : Int, 2 ≤ B ∧ B ≤ 16 ∧ bv = .int .i64 B ∧ Hid (uintP 2 l = amt B 0 D))
 case first =>
  go_wp2
  go_meet
  case rel => exact ⟨s, l, rfl, HL, H9, hs, ⟨0, rfl⟩, 2, by omega, by omega, rfl, HU⟩
 case rest =>
 clear HU H9 HL hs hp he
 obtain ⟨d, D, rfl, HD, H9, hds, ⟨nq, rfl⟩, B, hB2, hB16, rfl, HU⟩ := hcut
 go_upto_region 23 with fail
 rw [wrap_most]
 go_wp2
 have hB : Below w.heap.size w (Lib.bytesWorld (w.drewN nq) 5 d) := (below_drewN (Below.refl _ _) nq).trans (show Below (w.drewN nq).heap.size (w.drewN nq) _ from Lib.bytesWorld_below _ _ _)
 have hc : ∀ j (hj : j < d.size), (Lib.bytesWorld (w.drewN nq) 5 d).cell? ⟨w.heap.size, j, none⟩ = some (.int .u8 d[j].toNat) := by
  intro j hj
  have h := Lib.bytesWorld_cell (w.drewN nq) 5 d j hj
  have h2 := HD.out.get j hj
  rw [List.getD_eq_getElem?_getD] at h
  rw [show d.data.toList = D from HD.out, h2] at h
  exact h
 generalize Lib.bytesWorld (w.drewN nq) 5 d = W at *
 generalize grownCap (w.drewN nq) d.size 0 5 = cap at *
 have HC := Lib.hid hc
 clear hc
 go_loop [11, 12, 88] (fun nv uv iv => ∃ (k : Nat) (n : Int), k ≤ d.size ∧ iv = .int .i64 k ∧ uv = .bool false ∧ nv = .int .u64 n ∧ 0 ≤ n ∧ Hid (n ≤ 18446744073709551615) ∧ Hid (amt B 0 D = amt B n (D.drop k))) (fun _ _ iv => d.size - (intOf iv).toNat)
 case atStart => exact ⟨0, 0, Nat.zero_le _, rfl, rfl, rfl, Int.le_refl _, Lib.hid (by omega), Lib.hid rfl⟩
 case round =>
  obtain ⟨k, n, hk, rfl, rfl, rfl, hn0, hn1, H⟩ := hrel
  by_cases hlt : k < d.size
  ·have hck := HC.out k hlt
   have h95 : ((d[k].toNat : Int) == 95) = false := byte_ne (c := d[k]) (d := 95) (H9.out _ (by have := HD.out.get k hlt; exact List.mem_of_getElem? this))
   have hdr := Lib.hid (HD.out ▸ drop_cons d k hlt)
   have hd := digV_bd d[k].toNat
   have DP := digP_is d[k]
   have hx : Hid (amt B 0 D = amt B n (d[k] :: D.drop (k + 1))) := Lib.hid (by rw [H.out]; have := hdr.out; rw [show D.drop k = d[k] :: D.drop (k + 1) from by have h3 := drop_cons d k hlt; rw [show d.data.toList = D from HD.out] at h3; exact h3])
   clear hdr
   rcases DP with ⟨p1, p2, hv⟩ | ⟨p1, p2, p3, hv⟩ | ⟨p1, p2, p3, hv⟩ | ⟨p1, p2, hv⟩
   ·have g1 : (48 : Int) ≤ (d[k].toNat : Int) := by omega
    have g2 : (d[k].toNat : Int) ≤ 57 := by omega
    have HV := Lib.hid hv
    clear hv p1 p2 hd
    go_wp2
    ·go_ret2
     have h2 : B ≤ (d[k].toNat : Int) - 48 := by assumption
     exact ⟨hB, .inr ⟨by rw [HU.out, hx.out]; exact amt_none (.inl (by rw [HV.out]; exact h2)), .inl rfl⟩⟩
    ·go_ret2
     have h2 : 18446744073709551615 < (d[k].toNat : Int) - 48 ∨ (18446744073709551615 - ((d[k].toNat : Int) - 48)) / B < n := by assumption
     replace h2 := h2.resolve_left (by omega)
     exact ⟨hB, .inr ⟨by rw [HU.out, hx.out]; exact amt_none (.inr (by rw [HV.out]; exact h2)), .inr rfl⟩⟩
    ·have h3 : (d[k].toNat : Int) - 48 < B := by assumption
     have h4 : (d[k].toNat : Int) - 48 ≤ 18446744073709551615 ∧ n ≤ (18446744073709551615 - ((d[k].toNat : Int) - 48)) / B := by assumption
     have h5 := amt_fits hB2 hn0 (show 0 ≤ (d[k].toNat : Int) - 48 by omega) h4.2
     have e1 : IntKind.u64.wrap (IntKind.u64.wrap (n * B) + ((d[k].toNat : Int) - 48)) = n * B + ((d[k].toNat : Int) - 48) := by
      rw [show IntKind.u64.wrap (n * B) = n * B from IntWalk.u64_in _ (by omega), IntWalk.u64_in _ (by omega)]
     go_round
     case rel => exact ⟨k + 1, n * B + ((d[k].toNat : Int) - 48), by omega, by go_num, rfl, by rw [e1], by omega, Lib.hid h5.2, Lib.hid (by rw [hx.out, amt_some (by rw [HV.out]; exact ⟨h3, h4.2⟩), HV.out])⟩
     case measure => simp [intOf]; omega
   ·by_cases p0 : 48 ≤ d[k].toNat
    ·have g1 : (48 : Int) ≤ (d[k].toNat : Int) := by omega
     have g2 : decide ((d[k].toNat : Int) ≤ 57) = false := by simp; omega
     have g3 : (57 : Int) < (d[k].toNat : Int) := by omega
     have HV := Lib.hid hv
     have HL := Lib.hid (show ∀ w, Calls Tryz.prog 98 #[.int .u8 d[k].toNat] w _ from lower_any d[k])
     generalize (d[k] ||| 32).toNat = L at *
     have g4 : (97 : Int) ≤ (L : Int) := by omega
     have g5 : (L : Int) ≤ 122 := by omega
     clear hv p0 p1 p2 hd
     go_wp2_with (go_at_call 98; refine (HL.out _).mono ?_; rintro e w' ⟨rfl, rfl⟩)
     ·go_ret2
      have h2 : B ≤ (L : Int) - 97 + 10 := by assumption
      exact ⟨hB, .inr ⟨by rw [HU.out, hx.out]; exact amt_none (.inl (by rw [HV.out]; omega)), .inl rfl⟩⟩
     ·go_ret2
      have h2 : 18446744073709551615 < (L : Int) - 97 + 10 ∨ (18446744073709551615 - ((L : Int) - 97 + 10)) / B < n := by assumption
      replace h2 := h2.resolve_left (by omega)
      exact ⟨hB, .inr ⟨by rw [HU.out, hx.out]; exact amt_none (.inr (by rw [HV.out, show (L : Int) - 87 = (L : Int) - 97 + 10 by omega]; exact h2)), .inr rfl⟩⟩
     ·have h3 : (L : Int) - 97 + 10 < B := by assumption
      have h4 : (L : Int) - 97 + 10 ≤ 18446744073709551615 ∧ n ≤ (18446744073709551615 - ((L : Int) - 97 + 10)) / B := by assumption
      have h5 := amt_fits hB2 hn0 (show 0 ≤ (L : Int) - 97 + 10 by omega) h4.2
      have e1 : IntKind.u64.wrap (IntKind.u64.wrap (n * B) + ((L : Int) - 97 + 10)) = n * B + ((L : Int) - 97 + 10) := by
       rw [show IntKind.u64.wrap (n * B) = n * B from IntWalk.u64_in _ (by omega), IntWalk.u64_in _ (by omega)]
      go_round
      case rel => exact ⟨k + 1, n * B + ((L : Int) - 97 + 10), by omega, by go_num, rfl, by rw [e1], by omega, Lib.hid h5.2, Lib.hid (by rw [hx.out, amt_some (by rw [HV.out, show (L : Int) - 87 = (L : Int) - 97 + 10 by omega]; exact ⟨h3, h4.2⟩), HV.out, show (L : Int) - 87 = (L : Int) - 97 + 10 by omega])⟩
      case measure => simp [intOf]; omega
    ·have g1 : decide ((48 : Int) ≤ (d[k].toNat : Int)) = false := by simp; omega
     have g3 : (d[k].toNat : Int) < (48 : Int) := by omega
     have HV := Lib.hid hv
     have HL := Lib.hid (show ∀ w, Calls Tryz.prog 98 #[.int .u8 d[k].toNat] w _ from lower_any d[k])
     generalize (d[k] ||| 32).toNat = L at *
     have g4 : (97 : Int) ≤ (L : Int) := by omega
     have g5 : (L : Int) ≤ 122 := by omega
     clear hv p0 p1 p2 hd
     go_wp2_with (go_at_call 98; refine (HL.out _).mono ?_; rintro e w' ⟨rfl, rfl⟩)
     ·go_ret2
      have h2 : B ≤ (L : Int) - 97 + 10 := by assumption
      exact ⟨hB, .inr ⟨by rw [HU.out, hx.out]; exact amt_none (.inl (by rw [HV.out]; omega)), .inl rfl⟩⟩
     ·go_ret2
      have h2 : 18446744073709551615 < (L : Int) - 97 + 10 ∨ (18446744073709551615 - ((L : Int) - 97 + 10)) / B < n := by assumption
      replace h2 := h2.resolve_left (by omega)
      exact ⟨hB, .inr ⟨by rw [HU.out, hx.out]; exact amt_none (.inr (by rw [HV.out, show (L : Int) - 87 = (L : Int) - 97 + 10 by omega]; exact h2)), .inr rfl⟩⟩
     ·have h3 : (L : Int) - 97 + 10 < B := by assumption
      have h4 : (L : Int) - 97 + 10 ≤ 18446744073709551615 ∧ n ≤ (18446744073709551615 - ((L : Int) - 97 + 10)) / B := by assumption
      have h5 := amt_fits hB2 hn0 (show 0 ≤ (L : Int) - 97 + 10 by omega) h4.2
      have e1 : IntKind.u64.wrap (IntKind.u64.wrap (n * B) + ((L : Int) - 97 + 10)) = n * B + ((L : Int) - 97 + 10) := by
       rw [show IntKind.u64.wrap (n * B) = n * B from IntWalk.u64_in _ (by omega), IntWalk.u64_in _ (by omega)]
      go_round
      case rel => exact ⟨k + 1, n * B + ((L : Int) - 97 + 10), by omega, by go_num, rfl, by rw [e1], by omega, Lib.hid h5.2, Lib.hid (by rw [hx.out, amt_some (by rw [HV.out, show (L : Int) - 87 = (L : Int) - 97 + 10 by omega]; exact ⟨h3, h4.2⟩), HV.out, show (L : Int) - 87 = (L : Int) - 97 + 10 by omega])⟩
      case measure => simp [intOf]; omega
   ·have HV := Lib.hid hv
    have HL := Lib.hid (show ∀ w, Calls Tryz.prog 98 #[.int .u8 d[k].toNat] w _ from lower_any d[k])
    generalize (d[k] ||| 32).toNat = L at *
    have g4 : (97 : Int) ≤ (L : Int) := by omega
    have g5 : (L : Int) ≤ 122 := by omega
    have g6 : B ≤ (L : Int) - 97 + 10 := by omega
    have HF : Hid (amt B 0 D = none) := Lib.hid (by rw [hx.out]; exact amt_none (.inl (by rw [HV.out]; omega)))
    by_cases p0 : 48 ≤ d[k].toNat
    ·have g1 : (48 : Int) ≤ (d[k].toNat : Int) := by omega
     have g2 : decide ((d[k].toNat : Int) ≤ 57) = false := by simp; omega
     have g3 : (57 : Int) < (d[k].toNat : Int) := by omega
     clear hv p0 p1 p2 hd
     go_wp2_with (go_at_call 98; refine (HL.out _).mono ?_; rintro e w' ⟨rfl, rfl⟩)
     go_ret2
     exact ⟨hB, .inr ⟨by rw [HU.out, HF.out], .inl rfl⟩⟩
    ·have g1 : decide ((48 : Int) ≤ (d[k].toNat : Int)) = false := by simp; omega
     have g3 : (d[k].toNat : Int) < (48 : Int) := by omega
     clear hv p0 p1 p2 hd
     go_wp2_with (go_at_call 98; refine (HL.out _).mono ?_; rintro e w' ⟨rfl, rfl⟩)
     go_ret2
     exact ⟨hB, .inr ⟨by rw [HU.out, HF.out], .inl rfl⟩⟩
   ·have HV := Lib.hid hv
    have HL := Lib.hid (show ∀ w, Calls Tryz.prog 98 #[.int .u8 d[k].toNat] w _ from lower_any d[k])
    generalize (d[k] ||| 32).toNat = L at *
    have HF : Hid (amt B 0 D = none) := Lib.hid (by rw [hx.out]; exact amt_none (.inl (by rw [HV.out]; omega)))
    by_cases q0 : 97 ≤ L
    ·have g4 : (97 : Int) ≤ (L : Int) := by omega
     have g5 : decide ((L : Int) ≤ 122) = false := by simp; omega
     have g6 : (122 : Int) < (L : Int) := by omega
     by_cases p0 : 48 ≤ d[k].toNat
     ·have g1 : (48 : Int) ≤ (d[k].toNat : Int) := by omega
      have g2 : decide ((d[k].toNat : Int) ≤ 57) = false := by simp; omega
      have g3 : (57 : Int) < (d[k].toNat : Int) := by omega
      clear hv p0 p1 p2 q0 hd
      go_wp2_with (go_at_call 98; refine (HL.out _).mono ?_; rintro e w' ⟨rfl, rfl⟩)
      go_ret2
      exact ⟨hB, .inr ⟨by rw [HU.out, HF.out], .inl rfl⟩⟩
     ·have g1 : decide ((48 : Int) ≤ (d[k].toNat : Int)) = false := by simp; omega
      have g3 : (d[k].toNat : Int) < (48 : Int) := by omega
      clear hv p0 p1 p2 q0 hd
      go_wp2_with (go_at_call 98; refine (HL.out _).mono ?_; rintro e w' ⟨rfl, rfl⟩)
      go_ret2
      exact ⟨hB, .inr ⟨by rw [HU.out, HF.out], .inl rfl⟩⟩
    ·have g4 : decide ((97 : Int) ≤ (L : Int)) = false := by simp; omega
     have g5 : (L : Int) < (97 : Int) := by omega
     by_cases p0 : 48 ≤ d[k].toNat
     ·have g1 : (48 : Int) ≤ (d[k].toNat : Int) := by omega
      have g2 : decide ((d[k].toNat : Int) ≤ 57) = false := by simp; omega
      have g3 : (57 : Int) < (d[k].toNat : Int) := by omega
      clear hv p0 p1 p2 q0 hd
      go_wp2_with (go_at_call 98; refine (HL.out _).mono ?_; rintro e w' ⟨rfl, rfl⟩)
      go_ret2
      exact ⟨hB, .inr ⟨by rw [HU.out, HF.out], .inl rfl⟩⟩
     ·have g1 : decide ((48 : Int) ≤ (d[k].toNat : Int)) = false := by simp; omega
      have g3 : (d[k].toNat : Int) < (48 : Int) := by omega
      clear hv p0 p1 p2 q0 hd
      go_wp2_with (go_at_call 98; refine (HL.out _).mono ?_; rintro e w' ⟨rfl, rfl⟩)
      go_ret2
      exact ⟨hB, .inr ⟨by rw [HU.out, HF.out], .inl rfl⟩⟩
  ·have hge : decide ((k : Int) < (d.size : Int)) = false := by simp; omega
   have hgi : (d.size : Int) ≤ (k : Int) := by omega
   have hnil : Hid (D.drop k = []) := Lib.hid (List.drop_eq_nil_of_le (by have := HD.out.size; omega))
   go_wp2
   go_ret2
   exact ⟨hB, .inl ⟨n, by rw [HU.out, H.out, hnil.out]; rfl, hn0, hn1.out, rfl⟩⟩
set_option maxRecDepth 100000 in
set_option maxHeartbeats 4000000 in
theorem parseUint_8 (s : ByteArray) (l : Bs) (w : World) (hl : StrIs s l) (hs : s.size ≤ 1000) (hp : 0 < s.size) (h95 : ∀ c ∈ l, c ≠ 95) :
  Calls Tryz.prog 74 #[.string s, .int .i64 8, .int .i64 64] w (UintPost (uintP 8 l) w) := by
 have hne : l ≠ [] := by intro h; have := hl.size; rw [h] at this; rw [show ([] : Bs).length = 0 from rfl] at this; omega
 have he : s.toList.isEmpty = false := by rw [Lib.toList_data, hl]; cases l with | nil => exact absurd rfl hne | cons a b => rfl
 have HU : Hid (uintP 8 l = amt 8 0 l) := Lib.hid (by unfold uintP; rw [if_neg hne, if_neg (by decide)])
 clear hne
 have H9 := Lib.hid h95
 have HL := Lib.hid hl
 clear h95 hl
 go_enter Tryz.func74, Tryz.ntmps74
 go_upto_block 0 with fail
 go_cut [0, 1] (fun sv bv wc => ∃ (d : ByteArray) (D : Bs), sv = .string d ∧ Hid (StrIs d D) ∧ Hid (∀ c ∈ D, c ≠ 95) ∧ d.size ≤ 1000 ∧ Drew w wc ∧ ∃ B : Int, 2 ≤ B ∧ B ≤ 16 ∧ bv = .int .i64 B ∧ Hid (uintP 8 l = amt B 0 D))
 case first =>
  go_wp2
  go_meet
  case rel => exact ⟨s, l, rfl, HL, H9, hs, ⟨0, rfl⟩, 8, by omega, by omega, rfl, HU⟩
 case rest =>
 clear HU H9 HL hs hp he
 obtain ⟨d, D, rfl, HD, H9, hds, ⟨nq, rfl⟩, B, hB2, hB16, rfl, HU⟩ := hcut
 go_upto_region 23 with fail
 rw [wrap_most]
 go_wp2
 have hB : Below w.heap.size w (Lib.bytesWorld (w.drewN nq) 5 d) := (below_drewN (Below.refl _ _) nq).trans (show Below (w.drewN nq).heap.size (w.drewN nq) _ from Lib.bytesWorld_below _ _ _)
 have hc : ∀ j (hj : j < d.size), (Lib.bytesWorld (w.drewN nq) 5 d).cell? ⟨w.heap.size, j, none⟩ = some (.int .u8 d[j].toNat) := by
  intro j hj
  have h := Lib.bytesWorld_cell (w.drewN nq) 5 d j hj
  have h2 := HD.out.get j hj
  rw [List.getD_eq_getElem?_getD] at h
  rw [show d.data.toList = D from HD.out, h2] at h
  exact h
 generalize Lib.bytesWorld (w.drewN nq) 5 d = W at *
 generalize grownCap (w.drewN nq) d.size 0 5 = cap at *
 have HC := Lib.hid hc
 clear hc
 go_loop [11, 12, 88] (fun nv uv iv => ∃ (k : Nat) (n : Int), k ≤ d.size ∧ iv = .int .i64 k ∧ uv = .bool false ∧ nv = .int .u64 n ∧ 0 ≤ n ∧ Hid (n ≤ 18446744073709551615) ∧ Hid (amt B 0 D = amt B n (D.drop k))) (fun _ _ iv => d.size - (intOf iv).toNat)
 case atStart => exact ⟨0, 0, Nat.zero_le _, rfl, rfl, rfl, Int.le_refl _, Lib.hid (by omega), Lib.hid rfl⟩
 case round =>
  obtain ⟨k, n, hk, rfl, rfl, rfl, hn0, hn1, H⟩ := hrel
  by_cases hlt : k < d.size
  ·have hck := HC.out k hlt
   have h95 : ((d[k].toNat : Int) == 95) = false := byte_ne (c := d[k]) (d := 95) (H9.out _ (by have := HD.out.get k hlt; exact List.mem_of_getElem? this))
   have hdr := Lib.hid (HD.out ▸ drop_cons d k hlt)
   have hd := digV_bd d[k].toNat
   have DP := digP_is d[k]
   have hx : Hid (amt B 0 D = amt B n (d[k] :: D.drop (k + 1))) := Lib.hid (by rw [H.out]; have := hdr.out; rw [show D.drop k = d[k] :: D.drop (k + 1) from by have h3 := drop_cons d k hlt; rw [show d.data.toList = D from HD.out] at h3; exact h3])
   clear hdr
   rcases DP with ⟨p1, p2, hv⟩ | ⟨p1, p2, p3, hv⟩ | ⟨p1, p2, p3, hv⟩ | ⟨p1, p2, hv⟩
   ·have g1 : (48 : Int) ≤ (d[k].toNat : Int) := by omega
    have g2 : (d[k].toNat : Int) ≤ 57 := by omega
    have HV := Lib.hid hv
    clear hv p1 p2 hd
    go_wp2
    ·go_ret2
     have h2 : B ≤ (d[k].toNat : Int) - 48 := by assumption
     exact ⟨hB, .inr ⟨by rw [HU.out, hx.out]; exact amt_none (.inl (by rw [HV.out]; exact h2)), .inl rfl⟩⟩
    ·go_ret2
     have h2 : 18446744073709551615 < (d[k].toNat : Int) - 48 ∨ (18446744073709551615 - ((d[k].toNat : Int) - 48)) / B < n := by assumption
     replace h2 := h2.resolve_left (by omega)
     exact ⟨hB, .inr ⟨by rw [HU.out, hx.out]; exact amt_none (.inr (by rw [HV.out]; exact h2)), .inr rfl⟩⟩
    ·have h3 : (d[k].toNat : Int) - 48 < B := by assumption
     have h4 : (d[k].toNat : Int) - 48 ≤ 18446744073709551615 ∧ n ≤ (18446744073709551615 - ((d[k].toNat : Int) - 48)) / B := by assumption
     have h5 := amt_fits hB2 hn0 (show 0 ≤ (d[k].toNat : Int) - 48 by omega) h4.2
     have e1 : IntKind.u64.wrap (IntKind.u64.wrap (n * B) + ((d[k].toNat : Int) - 48)) = n * B + ((d[k].toNat : Int) - 48) := by
      rw [show IntKind.u64.wrap (n * B) = n * B from IntWalk.u64_in _ (by omega), IntWalk.u64_in _ (by omega)]
     go_round
     case rel => exact ⟨k + 1, n * B + ((d[k].toNat : Int) - 48), by omega, by go_num, rfl, by rw [e1], by omega, Lib.hid h5.2, Lib.hid (by rw [hx.out, amt_some (by rw [HV.out]; exact ⟨h3, h4.2⟩), HV.out])⟩
     case measure => simp [intOf]; omega
   ·by_cases p0 : 48 ≤ d[k].toNat
    ·have g1 : (48 : Int) ≤ (d[k].toNat : Int) := by omega
     have g2 : decide ((d[k].toNat : Int) ≤ 57) = false := by simp; omega
     have g3 : (57 : Int) < (d[k].toNat : Int) := by omega
     have HV := Lib.hid hv
     have HL := Lib.hid (show ∀ w, Calls Tryz.prog 98 #[.int .u8 d[k].toNat] w _ from lower_any d[k])
     generalize (d[k] ||| 32).toNat = L at *
     have g4 : (97 : Int) ≤ (L : Int) := by omega
     have g5 : (L : Int) ≤ 122 := by omega
     clear hv p0 p1 p2 hd
     go_wp2_with (go_at_call 98; refine (HL.out _).mono ?_; rintro e w' ⟨rfl, rfl⟩)
     ·go_ret2
      have h2 : B ≤ (L : Int) - 97 + 10 := by assumption
      exact ⟨hB, .inr ⟨by rw [HU.out, hx.out]; exact amt_none (.inl (by rw [HV.out]; omega)), .inl rfl⟩⟩
     ·go_ret2
      have h2 : 18446744073709551615 < (L : Int) - 97 + 10 ∨ (18446744073709551615 - ((L : Int) - 97 + 10)) / B < n := by assumption
      replace h2 := h2.resolve_left (by omega)
      exact ⟨hB, .inr ⟨by rw [HU.out, hx.out]; exact amt_none (.inr (by rw [HV.out, show (L : Int) - 87 = (L : Int) - 97 + 10 by omega]; exact h2)), .inr rfl⟩⟩
     ·have h3 : (L : Int) - 97 + 10 < B := by assumption
      have h4 : (L : Int) - 97 + 10 ≤ 18446744073709551615 ∧ n ≤ (18446744073709551615 - ((L : Int) - 97 + 10)) / B := by assumption
      have h5 := amt_fits hB2 hn0 (show 0 ≤ (L : Int) - 97 + 10 by omega) h4.2
      have e1 : IntKind.u64.wrap (IntKind.u64.wrap (n * B) + ((L : Int) - 97 + 10)) = n * B + ((L : Int) - 97 + 10) := by
       rw [show IntKind.u64.wrap (n * B) = n * B from IntWalk.u64_in _ (by omega), IntWalk.u64_in _ (by omega)]
      go_round
      case rel => exact ⟨k + 1, n * B + ((L : Int) - 97 + 10), by omega, by go_num, rfl, by rw [e1], by omega, Lib.hid h5.2, Lib.hid (by rw [hx.out, amt_some (by rw [HV.out, show (L : Int) - 87 = (L : Int) - 97 + 10 by omega]; exact ⟨h3, h4.2⟩), HV.out, show (L : Int) - 87 = (L : Int) - 97 + 10 by omega])⟩
      case measure => simp [intOf]; omega
    ·have g1 : decide ((48 : Int) ≤ (d[k].toNat : Int)) = false := by simp; omega
     have g3 : (d[k].toNat : Int) < (48 : Int) := by omega
     have HV := Lib.hid hv
     have HL := Lib.hid (show ∀ w, Calls Tryz.prog 98 #[.int .u8 d[k].toNat] w _ from lower_any d[k])
     generalize (d[k] ||| 32).toNat = L at *
     have g4 : (97 : Int) ≤ (L : Int) := by omega
     have g5 : (L : Int) ≤ 122 := by omega
     clear hv p0 p1 p2 hd
     go_wp2_with (go_at_call 98; refine (HL.out _).mono ?_; rintro e w' ⟨rfl, rfl⟩)
     ·go_ret2
      have h2 : B ≤ (L : Int) - 97 + 10 := by assumption
      exact ⟨hB, .inr ⟨by rw [HU.out, hx.out]; exact amt_none (.inl (by rw [HV.out]; omega)), .inl rfl⟩⟩
     ·go_ret2
      have h2 : 18446744073709551615 < (L : Int) - 97 + 10 ∨ (18446744073709551615 - ((L : Int) - 97 + 10)) / B < n := by assumption
      replace h2 := h2.resolve_left (by omega)
      exact ⟨hB, .inr ⟨by rw [HU.out, hx.out]; exact amt_none (.inr (by rw [HV.out, show (L : Int) - 87 = (L : Int) - 97 + 10 by omega]; exact h2)), .inr rfl⟩⟩
     ·have h3 : (L : Int) - 97 + 10 < B := by assumption
      have h4 : (L : Int) - 97 + 10 ≤ 18446744073709551615 ∧ n ≤ (18446744073709551615 - ((L : Int) - 97 + 10)) / B := by assumption
      have h5 := amt_fits hB2 hn0 (show 0 ≤ (L : Int) - 97 + 10 by omega) h4.2
      have e1 : IntKind.u64.wrap (IntKind.u64.wrap (n * B) + ((L : Int) - 97 + 10)) = n * B + ((L : Int) - 97 + 10) := by
       rw [show IntKind.u64.wrap (n * B) = n * B from IntWalk.u64_in _ (by omega), IntWalk.u64_in _ (by omega)]
      go_round
      case rel => exact ⟨k + 1, n * B + ((L : Int) - 97 + 10), by omega, by go_num, rfl, by rw [e1], by omega, Lib.hid h5.2, Lib.hid (by rw [hx.out, amt_some (by rw [HV.out, show (L : Int) - 87 = (L : Int) - 97 + 10 by omega]; exact ⟨h3, h4.2⟩), HV.out, show (L : Int) - 87 = (L : Int) - 97 + 10 by omega])⟩
      case measure => simp [intOf]; omega
   ·have HV := Lib.hid hv
    have HL := Lib.hid (show ∀ w, Calls Tryz.prog 98 #[.int .u8 d[k].toNat] w _ from lower_any d[k])
    generalize (d[k] ||| 32).toNat = L at *
    have g4 : (97 : Int) ≤ (L : Int) := by omega
    have g5 : (L : Int) ≤ 122 := by omega
    have g6 : B ≤ (L : Int) - 97 + 10 := by omega
    have HF : Hid (amt B 0 D = none) := Lib.hid (by rw [hx.out]; exact amt_none (.inl (by rw [HV.out]; omega)))
    by_cases p0 : 48 ≤ d[k].toNat
    ·have g1 : (48 : Int) ≤ (d[k].toNat : Int) := by omega
     have g2 : decide ((d[k].toNat : Int) ≤ 57) = false := by simp; omega
     have g3 : (57 : Int) < (d[k].toNat : Int) := by omega
     clear hv p0 p1 p2 hd
     go_wp2_with (go_at_call 98; refine (HL.out _).mono ?_; rintro e w' ⟨rfl, rfl⟩)
     go_ret2
     exact ⟨hB, .inr ⟨by rw [HU.out, HF.out], .inl rfl⟩⟩
    ·have g1 : decide ((48 : Int) ≤ (d[k].toNat : Int)) = false := by simp; omega
     have g3 : (d[k].toNat : Int) < (48 : Int) := by omega
     clear hv p0 p1 p2 hd
     go_wp2_with (go_at_call 98; refine (HL.out _).mono ?_; rintro e w' ⟨rfl, rfl⟩)
     go_ret2
     exact ⟨hB, .inr ⟨by rw [HU.out, HF.out], .inl rfl⟩⟩
   ·have HV := Lib.hid hv
    have HL := Lib.hid (show ∀ w, Calls Tryz.prog 98 #[.int .u8 d[k].toNat] w _ from lower_any d[k])
    generalize (d[k] ||| 32).toNat = L at *
    have HF : Hid (amt B 0 D = none) := Lib.hid (by rw [hx.out]; exact amt_none (.inl (by rw [HV.out]; omega)))
    by_cases q0 : 97 ≤ L
    ·have g4 : (97 : Int) ≤ (L : Int) := by omega
     have g5 : decide ((L : Int) ≤ 122) = false := by simp; omega
     have g6 : (122 : Int) < (L : Int) := by omega
     by_cases p0 : 48 ≤ d[k].toNat
     ·have g1 : (48 : Int) ≤ (d[k].toNat : Int) := by omega
      have g2 : decide ((d[k].toNat : Int) ≤ 57) = false := by simp; omega
      have g3 : (57 : Int) < (d[k].toNat : Int) := by omega
      clear hv p0 p1 p2 q0 hd
      go_wp2_with (go_at_call 98; refine (HL.out _).mono ?_; rintro e w' ⟨rfl, rfl⟩)
      go_ret2
      exact ⟨hB, .inr ⟨by rw [HU.out, HF.out], .inl rfl⟩⟩
     ·have g1 : decide ((48 : Int) ≤ (d[k].toNat : Int)) = false := by simp; omega
      have g3 : (d[k].toNat : Int) < (48 : Int) := by omega
      clear hv p0 p1 p2 q0 hd
      go_wp2_with (go_at_call 98; refine (HL.out _).mono ?_; rintro e w' ⟨rfl, rfl⟩)
      go_ret2
      exact ⟨hB, .inr ⟨by rw [HU.out, HF.out], .inl rfl⟩⟩
    ·have g4 : decide ((97 : Int) ≤ (L : Int)) = false := by simp; omega
     have g5 : (L : Int) < (97 : Int) := by omega
     by_cases p0 : 48 ≤ d[k].toNat
     ·have g1 : (48 : Int) ≤ (d[k].toNat : Int) := by omega
      have g2 : decide ((d[k].toNat : Int) ≤ 57) = false := by simp; omega
      have g3 : (57 : Int) < (d[k].toNat : Int) := by omega
      clear hv p0 p1 p2 q0 hd
      go_wp2_with (go_at_call 98; refine (HL.out _).mono ?_; rintro e w' ⟨rfl, rfl⟩)
      go_ret2
      exact ⟨hB, .inr ⟨by rw [HU.out, HF.out], .inl rfl⟩⟩
     ·have g1 : decide ((48 : Int) ≤ (d[k].toNat : Int)) = false := by simp; omega
      have g3 : (d[k].toNat : Int) < (48 : Int) := by omega
      clear hv p0 p1 p2 q0 hd
      go_wp2_with (go_at_call 98; refine (HL.out _).mono ?_; rintro e w' ⟨rfl, rfl⟩)
      go_ret2
      exact ⟨hB, .inr ⟨by rw [HU.out, HF.out], .inl rfl⟩⟩
  ·have hge : decide ((k : Int) < (d.size : Int)) = false := by simp; omega
   have hgi : (d.size : Int) ≤ (k : Int) := by omega
   have hnil : Hid (D.drop k = []) := Lib.hid (List.drop_eq_nil_of_le (by have := HD.out.size; omega))
   go_wp2
   go_ret2
   exact ⟨hB, .inl ⟨n, by rw [HU.out, H.out, hnil.out]; rfl, hn0, hn1.out, rfl⟩⟩
end Go.Proofs.YtillamhoakohdaaGreatDoor
namespace Go.Proofs.YtillamhoakohdaaGreatDoor
open Go.RowKit

theorem baseP_ten {c0 : UInt8} (l : Bs) (h : c0 ≠ 48) : baseP (c0 :: l) = (c0 :: l, 10) := by
 match l with
 | [] => simp [baseP, h]
 | [c1] => simp [baseP, h]
 | c1 :: c2 :: r => simp [baseP, h]

set_option maxRecDepth 100000 in
set_option maxHeartbeats 4000000 in
theorem parseUint_0 (s : ByteArray) (l : Bs) (w : World) (hl : StrIs s l) (hs : s.size ≤ 1000) (hp : 0 < s.size) (h95 : ∀ c ∈ l, c ≠ 95) :
  Calls Tryz.prog 74 #[.string s, .int .i64 0, .int .i64 64] w (UintPost (uintP 0 l) w) := by
 have hne : l ≠ [] := by intro h; have := hl.size; rw [h] at this; rw [show ([] : Bs).length = 0 from rfl] at this; omega
 have he : s.toList.isEmpty = false := by rw [Lib.toList_data, hl]; cases l with | nil => exact absurd rfl hne | cons a b => rfl
 have HU : uintP 0 l = amt (baseP l).2 0 (baseP l).1 := by unfold uintP; rw [if_neg hne, if_pos rfl]
 obtain ⟨c0, l1, hl1⟩ : ∃ c0 l1, l = c0 :: l1 := by cases l with | nil => exact absurd rfl hne | cons a b => exact ⟨a, b, rfl⟩
 have HHD : Hid (s[0] = c0) := Lib.hid (by have := hl.get 0 hp; rw [hl1] at this; simp at this; exact this.symm)
 have hpi : (0 : Int) < (s.size : Int) := by omega
 have H9 := Lib.hid h95
 have HL := Lib.hid hl
 have HL1 := Lib.hid hl1
 have HUH := Lib.hid HU
 clear h95 hl hl1 HU
 have MEM : Hid (∀ (n : Nat) (c : UInt8), c ∈ l.drop n → c ≠ 95) := Lib.hid (fun n c h => H9.out c (List.mem_of_mem_drop h))
 have SIZ : Hid (∀ n, (s.extract n s.size).size ≤ 1000) := Lib.hid (fun n => by rw [ByteArray.size_extract]; omega)
 go_enter Tryz.func74, Tryz.ntmps74
 go_upto_block 0 with fail
 go_cut [0, 1] (fun sv bv wc => ∃ (d : ByteArray) (D : Bs), sv = .string d ∧ Hid (StrIs d D) ∧ Hid (∀ c ∈ D, c ≠ 95) ∧ d.size ≤ 1000 ∧ Drew w wc ∧ ∃ B : Int, 2 ≤ B ∧ B ≤ 16 ∧ bv = .int .i64 B ∧ Hid (uintP 0 l = amt B 0 D))
 case first =>
  by_cases hz : c0 = 48
  rotate_left
  ·have f1 : ((s[0].toNat : Int) == 48) = false := byte_ne (c := s[0]) (d := 48) (by rw [HHD.out]; exact hz)
   have hb : Hid (baseP l = (l, 10)) := Lib.hid (by rw [HL1.out]; exact baseP_ten l1 hz)
   clear hz
   go_wp2
   go_meet
   case rel => exact ⟨s, l, rfl, HL, H9, hs, Drew.refl _, 10, by omega, by omega, rfl, Lib.hid (by rw [HUH.out, hb.out])⟩
  have f1 : ((s[0].toNat : Int) == 48) = true := byte_eq (c := s[0]) (d := 48) (by rw [HHD.out, hz])
  by_cases h3 : 3 ≤ s.size
  rotate_left
  ·have g1 : decide ((3 : Int) ≤ (s.size : Int)) = false := by simp; omega
   have g2 : (s.size : Int) < 3 := by omega
   have g3 : (1 : Int) ≤ (s.size : Int) := by omega
   have hb : Hid (baseP l = (l.drop 1, 8)) := Lib.hid (by
    have h4 := HL.out.size
    rw [HL1.out] at h4 ⊢
    match l1, h4 with
    | [], _ => simp [baseP, hz]
    | [c1], _ => simp [baseP, hz]
    | c1 :: c2 :: r, h4 => simp at h4; omega)
   have hdr := Lib.hid (HL.out.drop 1)
   have hsz := SIZ.out 1
   clear hz h3
   go_wp2
   go_quiet (fail)
   go_wp2
   go_meet
   case rel => exact ⟨_, l.drop 1, rfl, hdr, Lib.hid (MEM.out 1), hsz, ⟨_, rfl⟩, 8, by omega, by omega, rfl, Lib.hid (by rw [HUH.out, hb.out])⟩
  have g1 : (3 : Int) ≤ (s.size : Int) := by omega
  have g3 : (1 : Int) < (s.size : Int) := by omega
  have h1s : 1 < s.size := by omega
  obtain ⟨c1, c2, r, hl2⟩ : ∃ c1 c2 r, l1 = c1 :: c2 :: r := by
   have h4 := HL.out.size
   rw [HL1.out] at h4
   match l1, h4 with
   | [], h4 => simp at h4; omega
   | [c1], h4 => simp at h4; omega
   | c1 :: c2 :: r, _ => exact ⟨c1, c2, r, rfl⟩
  have HH1 : Hid (s[1] = c1) := Lib.hid (by have := HL.out.get 1 h1s; rw [HL1.out, hl2] at this; simp at this; exact this.symm)
  have LW := Lib.hid (show ∀ w, Calls Tryz.prog 98 #[.int .u8 s[1].toNat] w _ from lower_any s[1])
  have hl3 : Hid (l = 48 :: c1 :: c2 :: r) := Lib.hid (by rw [HL1.out, hl2, hz])
  clear hz h3 hl2
  by_cases q0 : c1 ||| 32 = 98
  ·skip
   have e0 : (((s[1] ||| 32).toNat : Int) == 98) = true := byte_eq (c := s[1] ||| 32) (d := 98) (by rw [HH1.out]; exact q0)
   have hb : Hid (baseP l = (l.drop 2, 2)) := Lib.hid (by rw [hl3.out]; simp [baseP, q0])
   have hdr := Lib.hid (HL.out.drop 2)
   have hsz := SIZ.out 2
   have g4 : (2 : Int) ≤ (s.size : Int) := by omega
   clear q0
   generalize (s[1] ||| 32).toNat = L at *
   go_wp2_with (go_at_call 98; refine (LW.out _).mono ?_; rintro e w' ⟨rfl, rfl⟩)
   go_quiet (fail)
   go_wp2
   go_meet
   case rel => exact ⟨_, l.drop 2, rfl, hdr, Lib.hid (MEM.out 2), hsz, ⟨_, rfl⟩, 2, by omega, by omega, rfl, Lib.hid (by rw [HUH.out, hb.out])⟩
  by_cases q1 : c1 ||| 32 = 111
  ·skip
   have e0 : (((s[1] ||| 32).toNat : Int) == 98) = false := byte_ne (c := s[1] ||| 32) (d := 98) (by rw [HH1.out]; exact q0)
   have e1 : (((s[1] ||| 32).toNat : Int) == 111) = true := byte_eq (c := s[1] ||| 32) (d := 111) (by rw [HH1.out]; exact q1)
   have hb : Hid (baseP l = (l.drop 2, 8)) := Lib.hid (by rw [hl3.out]; simp [baseP, q0, q1])
   have hdr := Lib.hid (HL.out.drop 2)
   have hsz := SIZ.out 2
   have g4 : (2 : Int) ≤ (s.size : Int) := by omega
   clear q0 q1
   generalize (s[1] ||| 32).toNat = L at *
   go_wp2_with (go_at_call 98; refine (LW.out _).mono ?_; rintro e w' ⟨rfl, rfl⟩)
   go_quiet (fail)
   go_wp2
   go_meet
   case rel => exact ⟨_, l.drop 2, rfl, hdr, Lib.hid (MEM.out 2), hsz, ⟨_, rfl⟩, 8, by omega, by omega, rfl, Lib.hid (by rw [HUH.out, hb.out])⟩
  by_cases q2 : c1 ||| 32 = 120
  ·skip
   have e0 : (((s[1] ||| 32).toNat : Int) == 98) = false := byte_ne (c := s[1] ||| 32) (d := 98) (by rw [HH1.out]; exact q0)
   have e1 : (((s[1] ||| 32).toNat : Int) == 111) = false := byte_ne (c := s[1] ||| 32) (d := 111) (by rw [HH1.out]; exact q1)
   have e2 : (((s[1] ||| 32).toNat : Int) == 120) = true := byte_eq (c := s[1] ||| 32) (d := 120) (by rw [HH1.out]; exact q2)
   have hb : Hid (baseP l = (l.drop 2, 16)) := Lib.hid (by rw [hl3.out]; simp [baseP, q0, q1, q2])
   have hdr := Lib.hid (HL.out.drop 2)
   have hsz := SIZ.out 2
   have g4 : (2 : Int) ≤ (s.size : Int) := by omega
   clear q0 q1 q2
   generalize (s[1] ||| 32).toNat = L at *
   go_wp2_with (go_at_call 98; refine (LW.out _).mono ?_; rintro e w' ⟨rfl, rfl⟩)
   go_quiet (fail)
   go_wp2
   go_meet
   case rel => exact ⟨_, l.drop 2, rfl, hdr, Lib.hid (MEM.out 2), hsz, ⟨_, rfl⟩, 16, by omega, by omega, rfl, Lib.hid (by rw [HUH.out, hb.out])⟩
  ·skip
   have e0 : (((s[1] ||| 32).toNat : Int) == 98) = false := byte_ne (c := s[1] ||| 32) (d := 98) (by rw [HH1.out]; exact q0)
   have e1 : (((s[1] ||| 32).toNat : Int) == 111) = false := byte_ne (c := s[1] ||| 32) (d := 111) (by rw [HH1.out]; exact q1)
   have e2 : (((s[1] ||| 32).toNat : Int) == 120) = false := byte_ne (c := s[1] ||| 32) (d := 120) (by rw [HH1.out]; exact q2)
   have hb : Hid (baseP l = (l.drop 1, 8)) := Lib.hid (by rw [hl3.out]; simp [baseP, q0, q1, q2])
   have hdr := Lib.hid (HL.out.drop 1)
   have hsz := SIZ.out 1
   have g4 : (1 : Int) ≤ (s.size : Int) := by omega
   clear q0 q1 q2
   generalize (s[1] ||| 32).toNat = L at *
   go_wp2_with (go_at_call 98; refine (LW.out _).mono ?_; rintro e w' ⟨rfl, rfl⟩)
   go_quiet (fail)
   go_wp2
   go_meet
   case rel => exact ⟨_, l.drop 1, rfl, hdr, Lib.hid (MEM.out 1), hsz, ⟨_, rfl⟩, 8, by omega, by omega, rfl, Lib.hid (by rw [HUH.out, hb.out])⟩
 case rest =>
 clear H9 HL hs hp he hne HHD HL1 HUH MEM SIZ hpi
 obtain ⟨d, D, rfl, HD, H9, hds, ⟨nq, rfl⟩, B, hB2, hB16, rfl, HU⟩ := hcut
 go_upto_region 23 with fail
 rw [wrap_most]
 go_wp2
 have hB : Below w.heap.size w (Lib.bytesWorld (w.drewN nq) 5 d) := (below_drewN (Below.refl _ _) nq).trans (show Below (w.drewN nq).heap.size (w.drewN nq) _ from Lib.bytesWorld_below _ _ _)
 have hc : ∀ j (hj : j < d.size), (Lib.bytesWorld (w.drewN nq) 5 d).cell? ⟨w.heap.size, j, none⟩ = some (.int .u8 d[j].toNat) := by
  intro j hj
  have h := Lib.bytesWorld_cell (w.drewN nq) 5 d j hj
  have h2 := HD.out.get j hj
  rw [List.getD_eq_getElem?_getD] at h
  rw [show d.data.toList = D from HD.out, h2] at h
  exact h
 generalize Lib.bytesWorld (w.drewN nq) 5 d = W at *
 generalize grownCap (w.drewN nq) d.size 0 5 = cap at *
 have HC := Lib.hid hc
 clear hc
 go_loop [11, 12, 88] (fun nv uv iv => ∃ (k : Nat) (n : Int), k ≤ d.size ∧ iv = .int .i64 k ∧ uv = .bool false ∧ nv = .int .u64 n ∧ 0 ≤ n ∧ Hid (n ≤ 18446744073709551615) ∧ Hid (amt B 0 D = amt B n (D.drop k))) (fun _ _ iv => d.size - (intOf iv).toNat)
 case atStart => exact ⟨0, 0, Nat.zero_le _, rfl, rfl, rfl, Int.le_refl _, Lib.hid (by omega), Lib.hid rfl⟩
 case round =>
  obtain ⟨k, n, hk, rfl, rfl, rfl, hn0, hn1, H⟩ := hrel
  by_cases hlt : k < d.size
  ·have hck := HC.out k hlt
   have h95 : ((d[k].toNat : Int) == 95) = false := byte_ne (c := d[k]) (d := 95) (H9.out _ (by have := HD.out.get k hlt; exact List.mem_of_getElem? this))
   have hdr := Lib.hid (HD.out ▸ drop_cons d k hlt)
   have hd := digV_bd d[k].toNat
   have DP := digP_is d[k]
   have hx : Hid (amt B 0 D = amt B n (d[k] :: D.drop (k + 1))) := Lib.hid (by rw [H.out]; have := hdr.out; rw [show D.drop k = d[k] :: D.drop (k + 1) from by have h3 := drop_cons d k hlt; rw [show d.data.toList = D from HD.out] at h3; exact h3])
   clear hdr
   rcases DP with ⟨p1, p2, hv⟩ | ⟨p1, p2, p3, hv⟩ | ⟨p1, p2, p3, hv⟩ | ⟨p1, p2, hv⟩
   ·have g1 : (48 : Int) ≤ (d[k].toNat : Int) := by omega
    have g2 : (d[k].toNat : Int) ≤ 57 := by omega
    have HV := Lib.hid hv
    clear hv p1 p2 hd
    go_wp2
    ·go_ret2
     have h2 : B ≤ (d[k].toNat : Int) - 48 := by assumption
     exact ⟨hB, .inr ⟨by rw [HU.out, hx.out]; exact amt_none (.inl (by rw [HV.out]; exact h2)), .inl rfl⟩⟩
    ·go_ret2
     have h2 : 18446744073709551615 < (d[k].toNat : Int) - 48 ∨ (18446744073709551615 - ((d[k].toNat : Int) - 48)) / B < n := by assumption
     replace h2 := h2.resolve_left (by omega)
     exact ⟨hB, .inr ⟨by rw [HU.out, hx.out]; exact amt_none (.inr (by rw [HV.out]; exact h2)), .inr rfl⟩⟩
    ·have h3 : (d[k].toNat : Int) - 48 < B := by assumption
     have h4 : (d[k].toNat : Int) - 48 ≤ 18446744073709551615 ∧ n ≤ (18446744073709551615 - ((d[k].toNat : Int) - 48)) / B := by assumption
     have h5 := amt_fits hB2 hn0 (show 0 ≤ (d[k].toNat : Int) - 48 by omega) h4.2
     have e1 : IntKind.u64.wrap (IntKind.u64.wrap (n * B) + ((d[k].toNat : Int) - 48)) = n * B + ((d[k].toNat : Int) - 48) := by
      rw [show IntKind.u64.wrap (n * B) = n * B from IntWalk.u64_in _ (by omega), IntWalk.u64_in _ (by omega)]
     go_round
     case rel => exact ⟨k + 1, n * B + ((d[k].toNat : Int) - 48), by omega, by go_num, rfl, by rw [e1], by omega, Lib.hid h5.2, Lib.hid (by rw [hx.out, amt_some (by rw [HV.out]; exact ⟨h3, h4.2⟩), HV.out])⟩
     case measure => simp [intOf]; omega
   ·by_cases p0 : 48 ≤ d[k].toNat
    ·have g1 : (48 : Int) ≤ (d[k].toNat : Int) := by omega
     have g2 : decide ((d[k].toNat : Int) ≤ 57) = false := by simp; omega
     have g3 : (57 : Int) < (d[k].toNat : Int) := by omega
     have HV := Lib.hid hv
     have HL := Lib.hid (show ∀ w, Calls Tryz.prog 98 #[.int .u8 d[k].toNat] w _ from lower_any d[k])
     generalize (d[k] ||| 32).toNat = L at *
     have g4 : (97 : Int) ≤ (L : Int) := by omega
     have g5 : (L : Int) ≤ 122 := by omega
     clear hv p0 p1 p2 hd
     go_wp2_with (go_at_call 98; refine (HL.out _).mono ?_; rintro e w' ⟨rfl, rfl⟩)
     ·go_ret2
      have h2 : B ≤ (L : Int) - 97 + 10 := by assumption
      exact ⟨hB, .inr ⟨by rw [HU.out, hx.out]; exact amt_none (.inl (by rw [HV.out]; omega)), .inl rfl⟩⟩
     ·go_ret2
      have h2 : 18446744073709551615 < (L : Int) - 97 + 10 ∨ (18446744073709551615 - ((L : Int) - 97 + 10)) / B < n := by assumption
      replace h2 := h2.resolve_left (by omega)
      exact ⟨hB, .inr ⟨by rw [HU.out, hx.out]; exact amt_none (.inr (by rw [HV.out, show (L : Int) - 87 = (L : Int) - 97 + 10 by omega]; exact h2)), .inr rfl⟩⟩
     ·have h3 : (L : Int) - 97 + 10 < B := by assumption
      have h4 : (L : Int) - 97 + 10 ≤ 18446744073709551615 ∧ n ≤ (18446744073709551615 - ((L : Int) - 97 + 10)) / B := by assumption
      have h5 := amt_fits hB2 hn0 (show 0 ≤ (L : Int) - 97 + 10 by omega) h4.2
      have e1 : IntKind.u64.wrap (IntKind.u64.wrap (n * B) + ((L : Int) - 97 + 10)) = n * B + ((L : Int) - 97 + 10) := by
       rw [show IntKind.u64.wrap (n * B) = n * B from IntWalk.u64_in _ (by omega), IntWalk.u64_in _ (by omega)]
      go_round
      case rel => exact ⟨k + 1, n * B + ((L : Int) - 97 + 10), by omega, by go_num, rfl, by rw [e1], by omega, Lib.hid h5.2, Lib.hid (by rw [hx.out, amt_some (by rw [HV.out, show (L : Int) - 87 = (L : Int) - 97 + 10 by omega]; exact ⟨h3, h4.2⟩), HV.out, show (L : Int) - 87 = (L : Int) - 97 + 10 by omega])⟩
      case measure => simp [intOf]; omega
    ·have g1 : decide ((48 : Int) ≤ (d[k].toNat : Int)) = false := by simp; omega
     have g3 : (d[k].toNat : Int) < (48 : Int) := by omega
     have HV := Lib.hid hv
     have HL := Lib.hid (show ∀ w, Calls Tryz.prog 98 #[.int .u8 d[k].toNat] w _ from lower_any d[k])
     generalize (d[k] ||| 32).toNat = L at *
     have g4 : (97 : Int) ≤ (L : Int) := by omega
     have g5 : (L : Int) ≤ 122 := by omega
     clear hv p0 p1 p2 hd
     go_wp2_with (go_at_call 98; refine (HL.out _).mono ?_; rintro e w' ⟨rfl, rfl⟩)
     ·go_ret2
      have h2 : B ≤ (L : Int) - 97 + 10 := by assumption
      exact ⟨hB, .inr ⟨by rw [HU.out, hx.out]; exact amt_none (.inl (by rw [HV.out]; omega)), .inl rfl⟩⟩
     ·go_ret2
      have h2 : 18446744073709551615 < (L : Int) - 97 + 10 ∨ (18446744073709551615 - ((L : Int) - 97 + 10)) / B < n := by assumption
      replace h2 := h2.resolve_left (by omega)
      exact ⟨hB, .inr ⟨by rw [HU.out, hx.out]; exact amt_none (.inr (by rw [HV.out, show (L : Int) - 87 = (L : Int) - 97 + 10 by omega]; exact h2)), .inr rfl⟩⟩
     ·have h3 : (L : Int) - 97 + 10 < B := by assumption
      have h4 : (L : Int) - 97 + 10 ≤ 18446744073709551615 ∧ n ≤ (18446744073709551615 - ((L : Int) - 97 + 10)) / B := by assumption
      have h5 := amt_fits hB2 hn0 (show 0 ≤ (L : Int) - 97 + 10 by omega) h4.2
      have e1 : IntKind.u64.wrap (IntKind.u64.wrap (n * B) + ((L : Int) - 97 + 10)) = n * B + ((L : Int) - 97 + 10) := by
       rw [show IntKind.u64.wrap (n * B) = n * B from IntWalk.u64_in _ (by omega), IntWalk.u64_in _ (by omega)]
      go_round
      case rel => exact ⟨k + 1, n * B + ((L : Int) - 97 + 10), by omega, by go_num, rfl, by rw [e1], by omega, Lib.hid h5.2, Lib.hid (by rw [hx.out, amt_some (by rw [HV.out, show (L : Int) - 87 = (L : Int) - 97 + 10 by omega]; exact ⟨h3, h4.2⟩), HV.out, show (L : Int) - 87 = (L : Int) - 97 + 10 by omega])⟩
      case measure => simp [intOf]; omega
   ·have HV := Lib.hid hv
    have HL := Lib.hid (show ∀ w, Calls Tryz.prog 98 #[.int .u8 d[k].toNat] w _ from lower_any d[k])
    generalize (d[k] ||| 32).toNat = L at *
    have g4 : (97 : Int) ≤ (L : Int) := by omega
    have g5 : (L : Int) ≤ 122 := by omega
    have g6 : B ≤ (L : Int) - 97 + 10 := by omega
    have HF : Hid (amt B 0 D = none) := Lib.hid (by rw [hx.out]; exact amt_none (.inl (by rw [HV.out]; omega)))
    by_cases p0 : 48 ≤ d[k].toNat
    ·have g1 : (48 : Int) ≤ (d[k].toNat : Int) := by omega
     have g2 : decide ((d[k].toNat : Int) ≤ 57) = false := by simp; omega
     have g3 : (57 : Int) < (d[k].toNat : Int) := by omega
     clear hv p0 p1 p2 hd
     go_wp2_with (go_at_call 98; refine (HL.out _).mono ?_; rintro e w' ⟨rfl, rfl⟩)
     go_ret2
     exact ⟨hB, .inr ⟨by rw [HU.out, HF.out], .inl rfl⟩⟩
    ·have g1 : decide ((48 : Int) ≤ (d[k].toNat : Int)) = false := by simp; omega
     have g3 : (d[k].toNat : Int) < (48 : Int) := by omega
     clear hv p0 p1 p2 hd
     go_wp2_with (go_at_call 98; refine (HL.out _).mono ?_; rintro e w' ⟨rfl, rfl⟩)
     go_ret2
     exact ⟨hB, .inr ⟨by rw [HU.out, HF.out], .inl rfl⟩⟩
   ·have HV := Lib.hid hv
    have HL := Lib.hid (show ∀ w, Calls Tryz.prog 98 #[.int .u8 d[k].toNat] w _ from lower_any d[k])
    generalize (d[k] ||| 32).toNat = L at *
    have HF : Hid (amt B 0 D = none) := Lib.hid (by rw [hx.out]; exact amt_none (.inl (by rw [HV.out]; omega)))
    by_cases q0 : 97 ≤ L
    ·have g4 : (97 : Int) ≤ (L : Int) := by omega
     have g5 : decide ((L : Int) ≤ 122) = false := by simp; omega
     have g6 : (122 : Int) < (L : Int) := by omega
     by_cases p0 : 48 ≤ d[k].toNat
     ·have g1 : (48 : Int) ≤ (d[k].toNat : Int) := by omega
      have g2 : decide ((d[k].toNat : Int) ≤ 57) = false := by simp; omega
      have g3 : (57 : Int) < (d[k].toNat : Int) := by omega
      clear hv p0 p1 p2 q0 hd
      go_wp2_with (go_at_call 98; refine (HL.out _).mono ?_; rintro e w' ⟨rfl, rfl⟩)
      go_ret2
      exact ⟨hB, .inr ⟨by rw [HU.out, HF.out], .inl rfl⟩⟩
     ·have g1 : decide ((48 : Int) ≤ (d[k].toNat : Int)) = false := by simp; omega
      have g3 : (d[k].toNat : Int) < (48 : Int) := by omega
      clear hv p0 p1 p2 q0 hd
      go_wp2_with (go_at_call 98; refine (HL.out _).mono ?_; rintro e w' ⟨rfl, rfl⟩)
      go_ret2
      exact ⟨hB, .inr ⟨by rw [HU.out, HF.out], .inl rfl⟩⟩
    ·have g4 : decide ((97 : Int) ≤ (L : Int)) = false := by simp; omega
     have g5 : (L : Int) < (97 : Int) := by omega
     by_cases p0 : 48 ≤ d[k].toNat
     ·have g1 : (48 : Int) ≤ (d[k].toNat : Int) := by omega
      have g2 : decide ((d[k].toNat : Int) ≤ 57) = false := by simp; omega
      have g3 : (57 : Int) < (d[k].toNat : Int) := by omega
      clear hv p0 p1 p2 q0 hd
      go_wp2_with (go_at_call 98; refine (HL.out _).mono ?_; rintro e w' ⟨rfl, rfl⟩)
      go_ret2
      exact ⟨hB, .inr ⟨by rw [HU.out, HF.out], .inl rfl⟩⟩
     ·have g1 : decide ((48 : Int) ≤ (d[k].toNat : Int)) = false := by simp; omega
      have g3 : (d[k].toNat : Int) < (48 : Int) := by omega
      clear hv p0 p1 p2 q0 hd
      go_wp2_with (go_at_call 98; refine (HL.out _).mono ?_; rintro e w' ⟨rfl, rfl⟩)
      go_ret2
      exact ⟨hB, .inr ⟨by rw [HU.out, HF.out], .inl rfl⟩⟩
  ·have hge : decide ((k : Int) < (d.size : Int)) = false := by simp; omega
   have hgi : (d.size : Int) ≤ (k : Int) := by omega
   have hnil : Hid (D.drop k = []) := Lib.hid (List.drop_eq_nil_of_le (by have := HD.out.size; omega))
   go_wp2
   go_ret2
   exact ⟨hB, .inl ⟨n, by rw [HU.out, H.out, hnil.out]; rfl, hn0, hn1.out, rfl⟩⟩
end Go.Proofs.YtillamhoakohdaaGreatDoor
