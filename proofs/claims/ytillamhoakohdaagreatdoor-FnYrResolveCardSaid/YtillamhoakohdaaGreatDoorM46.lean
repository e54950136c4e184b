/-
  Walks: the library's words for floats.
-/
import Derived.Test.YtillamhoakohdaaGreatDoorM28
import Derived.Test.YtillamhoakohdaaGreatDoorM41
set_option linter.unusedVariables false
set_option linter.unusedSimpArgs false
namespace Go.Proofs.YtillamhoakohdaaGreatDoor
open Go.RowKit

def FirstNo (s p : ByteArray) : Prop := ∃ (h : 0 < s.size) (h2 : 0 < p.size), s[0].toNat < 65 ∧ 97 ≤ p[0].toNat
def CpPost (s p : ByteArray) (w : World) (e : Ending) (w' : World) : Prop := ∃ n : Nat, e = .returned (.int .i64 n) ∧ w = w' ∧ n ≤ p.size ∧ (FirstNo s p ∨ s.size = 0 → n = 0)
set_option maxRecDepth 100000 in
set_option maxHeartbeats 4000000 in
theorem common_any (s p : ByteArray) (w : World) (hs : s.size ≤ 1000) (hp : p.size ≤ 10) : Calls Tryz.prog 147 #[.string s, .string p] w (CpPost s p w) := by
 go_enter Tryz.func147, Tryz.ntmps147
 go_upto_region 2 with fail
 go_upto_region 3 with fail
 obtain ⟨M, hM⟩ : ∃ M : Nat, min (p.size : Int) (s.size : Int) = (M : Int) := ⟨min p.size s.size, by omega⟩
 rw [hM]
 have hMp : M ≤ p.size := by omega
 have hMs : M ≤ s.size := by omega
 have hMm : Hid (M = min p.size s.size) := Lib.hid (by omega)
 clear hM
 go_loop [6] (fun i => ∃ k : Nat, i = .int .i64 k ∧ k ≤ M ∧ Hid (FirstNo s p → k = 0)) (fun i => M - (intOf i).toNat)
 case atStart => exact ⟨0, rfl, by omega, Lib.hid (fun _ => rfl)⟩
 case round =>
  obtain ⟨k, rfl, hk, HC⟩ := hrel
  by_cases hlt : k < M
  ·have h1 : k < s.size := by omega
   have h2 : k < p.size := by omega
   have hki : (k : Int) < (M : Int) := by omega
   have HE : Hid (FirstNo s p → s[k].toNat < 65 ∧ 97 ≤ p[k].toNat) := Lib.hid (fun h => by
    have h0 := HC.out h
    subst h0
    obtain ⟨_, _, h3⟩ := h
    exact h3)
   generalize hc : s[k] = c at *
   generalize hd : p[k] = d at *
   have hdl := byte_lt d
   by_cases hup : 65 ≤ c.toNat ∧ c.toNat ≤ 90
   ·have u1 : (65 : Int) ≤ (c.toNat : Int) := by omega
    have u2 : (c.toNat : Int) ≤ 90 := by omega
    by_cases he : (c.toNat : Int) + 32 = (d.toNat : Int)
    ·have HN : Hid (FirstNo s p → k + 1 = 0) := Lib.hid (fun h => by have := HE.out h; omega)
     have ke : ((c.toNat : Int) + 32 != (d.toNat : Int)) = false := by rw [bne_eq_false_iff_eq]; exact he
     clear hup
     have HEQ := Lib.hid he
     clear he
     go_wp2
     go_round
     case rel => exact ⟨k + 1, by go_num, by omega, HN⟩
     case measure => simp [intOf]; omega
    ·have ke : ((c.toNat : Int) + 32 != (d.toNat : Int)) = true := by rw [bne_iff_ne]; exact he
     clear hup
     go_wp2
     go_ret
     exact ⟨k, rfl, rfl, by omega, fun h => by rcases h with h | h; exact HC.out h; omega⟩
   ·have u : (c.toNat : Int) < 65 ∨ 90 < (c.toNat : Int) := by omega
    by_cases he : c = d
    ·subst he
     have HN : Hid (FirstNo s p → k + 1 = 0) := Lib.hid (fun h => by have := HE.out h; omega)
     clear hup
     rcases u with u | u
     all_goals
      go_wp2
      go_round
      case rel => exact ⟨k + 1, by go_num, by omega, HN⟩
      case measure => simp [intOf]; omega
    ·have ke : ((c.toNat : Int) != (d.toNat : Int)) = true := by rw [bne_iff_ne]; intro h; exact he (UInt8.toNat_inj.1 (by omega))
     clear hup
     rcases u with u | u
     all_goals
      go_wp2
      go_ret
      exact ⟨k, rfl, rfl, by omega, fun h => by rcases h with h | h; exact HC.out h; omega⟩
  ·have hge : (M : Int) ≤ (k : Int) := by omega
   go_wp2
   go_ret
   refine ⟨M, rfl, rfl, hMp, fun h => ?_⟩
   have h1 := hMm.out
   rcases h with h | h
   ·have h2 := HC.out h
    obtain ⟨h3, h4, _⟩ := h
    omega
   ·omega
theorem infF_any (n : Int) (w : World) : Calls Tryz.prog 148 #[.int .i64 n] w fun e w' => (∃ b : Nat, e = .returned (.float .f64 b)) ∧ w = w' := by
 go_enter Tryz.func148, Tryz.ntmps148
 go_wp2
 all_goals
  go_ret
  exact ⟨⟨_, rfl⟩, rfl⟩
theorem nanF_any (w : World) : Calls Tryz.prog 149 #[] w fun e w' => (∃ b : Nat, e = .returned (.float .f64 b)) ∧ w = w' := by
 go_enter Tryz.func149, Tryz.ntmps149
 go_wp2
 go_ret
 exact ⟨⟨_, rfl⟩, rfl⟩
def SpPost (l : Bs) (w : World) (e : Ending) (w' : World) : Prop := ∃ (b : Nat) (n : Int) (ok : Bool), e = .returned (.tuple #[.float .f64 b, .int .i64 n, .bool ok]) ∧ w = w' ∧ (lead l → ok = false)
set_option maxRecDepth 100000 in
set_option maxHeartbeats 4000000 in
theorem special_any (s : ByteArray) (l : Bs) (w : World) (hl : StrIs s l) (hs : s.size ≤ 200) : Calls Tryz.prog 133 #[.string s] w (SpPost l w) := by
 rcases l with _ | ⟨c0, r0⟩
 ·have hz : s.size = 0 := by have := hl.size; simpa using this
  go_enter Tryz.func133, Tryz.ntmps133
  go_wp2
  go_ret3
  exact ⟨0, 0, false, rfl, rfl, fun _ => rfl⟩
 obtain ⟨h0, e0⟩ := hl.cons
 have hne : decide (s = ByteArray.empty) = false := decide_eq_false (by rintro rfl; simp at h0)
 have hne2 : ((s.size : Int) == 0) = false := by rw [beq_eq_false_iff_ne]; omega
 have HL := Lib.hid hl
 clear hl
 go_enter Tryz.func133, Tryz.ntmps133
 have HLD : Hid (lead (c0 :: r0) → c0.toNat < 65 ∧ ∀ q : ByteArray, 0 < q.size → 97 ≤ (q.data.toList.head?.getD 0).toNat → c0 = 43 ∨ c0 = 45 → FirstNo (s.extract 1 s.size) q) := Lib.hid (by
  intro h
  obtain ⟨⟨c, r, h1, h2⟩, ⟨d, r', h3, h4⟩, _⟩ := lead_first h
  simp only [List.cons.injEq] at h1
  refine ⟨by rw [h1.1]; exact h2, ?_⟩
  intro q hq hq2 hc
  have hr : (sgn (c0 :: r0)).1 = r0 := by
   rw [sgn_cons]
   rcases hc with h | h
   ·rw [if_neg (by rw [h]; decide), if_pos h]
   ·rw [if_pos h]
  rw [hr] at h3
  have hx : StrIs (s.extract 1 s.size) r0 := HL.out.drop 1
  rw [h3] at hx
  obtain ⟨g0, g1⟩ := hx.cons
  refine ⟨g0, hq, by rw [g1]; exact h4, ?_⟩
  have : q.data.toList.head?.getD 0 = q[0] := by
   have h9 : 0 < q.data.toList.length := by rw [← Lib.size_eq]; exact hq
   rw [List.head?_eq_getElem?, List.getElem?_eq_getElem h9]; rfl
  rw [this] at hq2; exact hq2)
 rcases (Classical.em (c0 = 43)) with hc | n1
 ·subst hc
  have HF : Hid (lead (43 :: r0) → FirstNo (s.extract 1 s.size) ⟨#[105, 110, 102, 105, 110, 105, 116, 121]⟩) := Lib.hid (fun h => (HLD.out h).2 _ (by decide) (by decide) (by decide))
  clear HLD
  have hsz : (s.extract 1 s.size).size ≤ 1000 := by simp; omega
  have HSZ := Lib.hid hsz
  clear hsz
  go_wp2_with fail
  refine (common_any _ _ _ HSZ.out (by decide)).mono ?_
  rintro e w' ⟨n, rfl, rfl, hn, hz⟩
  have hn8 : n ≤ 8 := hn
  have HN := Lib.hid hz
  clear hz hn
  rcases (by omega : n < 3 ∨ n = 3 ∨ (3 < n ∧ n < 8) ∨ n = 8) with h | rfl | ⟨h, h'⟩ | rfl
  ·have k3 : ((n : Int) == 3) = false := by rw [beq_eq_false_iff_ne]; omega
   have k8 : ((n : Int) == 8) = false := by rw [beq_eq_false_iff_ne]; omega
   have i3 : (n : Int) < 3 := by omega
   go_wp2
   go_ret3
   exact ⟨0, 0, false, rfl, rfl, fun _ => rfl⟩
  ·go_wp2_with fail
   refine (infF_any _ _).mono ?_
   rintro e w' ⟨⟨b, rfl⟩, rfl⟩
   go_wp2
   go_ret3
   exact ⟨b, _, true, rfl, rfl, fun hlead => by exfalso; have := HN.out (Or.inl (HF.out hlead)); omega⟩
  ·have i3 : (3 : Int) < (n : Int) := by omega
   have i8 : (n : Int) < 8 := by omega
   go_wp2_with fail
   refine (infF_any _ _).mono ?_
   rintro e w' ⟨⟨b, rfl⟩, rfl⟩
   go_wp2
   go_ret3
   exact ⟨b, _, true, rfl, rfl, fun hlead => by exfalso; have := HN.out (Or.inl (HF.out hlead)); omega⟩
  ·go_wp2_with fail
   refine (infF_any _ _).mono ?_
   rintro e w' ⟨⟨b, rfl⟩, rfl⟩
   go_wp2
   go_ret3
   exact ⟨b, _, true, rfl, rfl, fun hlead => by exfalso; have := HN.out (Or.inl (HF.out hlead)); omega⟩
 rcases (Classical.em (c0 = 45)) with hc | n2
 ·subst hc
  have HF : Hid (lead (45 :: r0) → FirstNo (s.extract 1 s.size) ⟨#[105, 110, 102, 105, 110, 105, 116, 121]⟩) := Lib.hid (fun h => (HLD.out h).2 _ (by decide) (by decide) (by decide))
  clear HLD
  have hsz : (s.extract 1 s.size).size ≤ 1000 := by simp; omega
  have HSZ := Lib.hid hsz
  clear hsz
  go_wp2_with fail
  refine (common_any _ _ _ HSZ.out (by decide)).mono ?_
  rintro e w' ⟨n, rfl, rfl, hn, hz⟩
  have hn8 : n ≤ 8 := hn
  have HN := Lib.hid hz
  clear hz hn
  rcases (by omega : n < 3 ∨ n = 3 ∨ (3 < n ∧ n < 8) ∨ n = 8) with h | rfl | ⟨h, h'⟩ | rfl
  ·have k3 : ((n : Int) == 3) = false := by rw [beq_eq_false_iff_ne]; omega
   have k8 : ((n : Int) == 8) = false := by rw [beq_eq_false_iff_ne]; omega
   have i3 : (n : Int) < 3 := by omega
   go_wp2
   go_ret3
   exact ⟨0, 0, false, rfl, rfl, fun _ => rfl⟩
  ·go_wp2_with fail
   refine (infF_any _ _).mono ?_
   rintro e w' ⟨⟨b, rfl⟩, rfl⟩
   go_wp2
   go_ret3
   exact ⟨b, _, true, rfl, rfl, fun hlead => by exfalso; have := HN.out (Or.inl (HF.out hlead)); omega⟩
  ·have i3 : (3 : Int) < (n : Int) := by omega
   have i8 : (n : Int) < 8 := by omega
   go_wp2_with fail
   refine (infF_any _ _).mono ?_
   rintro e w' ⟨⟨b, rfl⟩, rfl⟩
   go_wp2
   go_ret3
   exact ⟨b, _, true, rfl, rfl, fun hlead => by exfalso; have := HN.out (Or.inl (HF.out hlead)); omega⟩
  ·go_wp2_with fail
   refine (infF_any _ _).mono ?_
   rintro e w' ⟨⟨b, rfl⟩, rfl⟩
   go_wp2
   go_ret3
   exact ⟨b, _, true, rfl, rfl, fun hlead => by exfalso; have := HN.out (Or.inl (HF.out hlead)); omega⟩
 rcases (Classical.em (c0 = 105)) with hc | n3
 ·subst hc
  go_wp2_with fail
  refine (common_any _ _ _ (by omega) (by decide)).mono ?_
  rintro e w' ⟨n, rfl, rfl, hn, hz⟩
  have hn8 : n ≤ 8 := hn
  have HN := Lib.hid hz
  clear hz hn
  rcases (by omega : n < 3 ∨ n = 3 ∨ (3 < n ∧ n < 8) ∨ n = 8) with h | rfl | ⟨h, h'⟩ | rfl
  ·have k3 : ((n : Int) == 3) = false := by rw [beq_eq_false_iff_ne]; omega
   have k8 : ((n : Int) == 8) = false := by rw [beq_eq_false_iff_ne]; omega
   have i3 : (n : Int) < 3 := by omega
   go_wp2
   go_ret3
   exact ⟨0, 0, false, rfl, rfl, fun _ => rfl⟩
  ·go_wp2_with fail
   refine (infF_any _ _).mono ?_
   rintro e w' ⟨⟨b, rfl⟩, rfl⟩
   go_wp2
   go_ret3
   exact ⟨b, _, true, rfl, rfl, fun hlead => by exfalso; have := (HLD.out hlead).1; revert this; decide⟩
  ·have i3 : (3 : Int) < (n : Int) := by omega
   have i8 : (n : Int) < 8 := by omega
   go_wp2_with fail
   refine (infF_any _ _).mono ?_
   rintro e w' ⟨⟨b, rfl⟩, rfl⟩
   go_wp2
   go_ret3
   exact ⟨b, _, true, rfl, rfl, fun hlead => by exfalso; have := (HLD.out hlead).1; revert this; decide⟩
  ·go_wp2_with fail
   refine (infF_any _ _).mono ?_
   rintro e w' ⟨⟨b, rfl⟩, rfl⟩
   go_wp2
   go_ret3
   exact ⟨b, _, true, rfl, rfl, fun hlead => by exfalso; have := (HLD.out hlead).1; revert this; decide⟩
 rcases (Classical.em (c0 = 73)) with hc | n4
 ·subst hc
  go_wp2_with fail
  refine (common_any _ _ _ (by omega) (by decide)).mono ?_
  rintro e w' ⟨n, rfl, rfl, hn, hz⟩
  have hn8 : n ≤ 8 := hn
  have HN := Lib.hid hz
  clear hz hn
  rcases (by omega : n < 3 ∨ n = 3 ∨ (3 < n ∧ n < 8) ∨ n = 8) with h | rfl | ⟨h, h'⟩ | rfl
  ·have k3 : ((n : Int) == 3) = false := by rw [beq_eq_false_iff_ne]; omega
   have k8 : ((n : Int) == 8) = false := by rw [beq_eq_false_iff_ne]; omega
   have i3 : (n : Int) < 3 := by omega
   go_wp2
   go_ret3
   exact ⟨0, 0, false, rfl, rfl, fun _ => rfl⟩
  ·go_wp2_with fail
   refine (infF_any _ _).mono ?_
   rintro e w' ⟨⟨b, rfl⟩, rfl⟩
   go_wp2
   go_ret3
   exact ⟨b, _, true, rfl, rfl, fun hlead => by exfalso; have := (HLD.out hlead).1; revert this; decide⟩
  ·have i3 : (3 : Int) < (n : Int) := by omega
   have i8 : (n : Int) < 8 := by omega
   go_wp2_with fail
   refine (infF_any _ _).mono ?_
   rintro e w' ⟨⟨b, rfl⟩, rfl⟩
   go_wp2
   go_ret3
   exact ⟨b, _, true, rfl, rfl, fun hlead => by exfalso; have := (HLD.out hlead).1; revert this; decide⟩
  ·go_wp2_with fail
   refine (infF_any _ _).mono ?_
   rintro e w' ⟨⟨b, rfl⟩, rfl⟩
   go_wp2
   go_ret3
   exact ⟨b, _, true, rfl, rfl, fun hlead => by exfalso; have := (HLD.out hlead).1; revert this; decide⟩
 rcases (Classical.em (c0 = 110)) with hc | n5
 ·subst hc
  go_wp2_with fail
  refine (common_any _ _ _ (by omega) (by decide)).mono ?_
  rintro e w' ⟨n, rfl, rfl, hn, hz⟩
  clear hz hn
  by_cases h3 : n = 3
  ·subst h3
   go_wp2_with fail
   refine (nanF_any _).mono ?_
   rintro e w' ⟨⟨b, rfl⟩, rfl⟩
   go_wp2
   go_ret3
   exact ⟨b, _, true, rfl, rfl, fun hlead => by exfalso; have := (HLD.out hlead).1; revert this; decide⟩
  ·have k3 : ((n : Int) == 3) = false := by rw [beq_eq_false_iff_ne]; omega
   go_wp2
   go_ret3
   exact ⟨0, 0, false, rfl, rfl, fun _ => rfl⟩
 rcases (Classical.em (c0 = 78)) with hc | n6
 ·subst hc
  go_wp2_with fail
  refine (common_any _ _ _ (by omega) (by decide)).mono ?_
  rintro e w' ⟨n, rfl, rfl, hn, hz⟩
  clear hz hn
  by_cases h3 : n = 3
  ·subst h3
   go_wp2_with fail
   refine (nanF_any _).mono ?_
   rintro e w' ⟨⟨b, rfl⟩, rfl⟩
   go_wp2
   go_ret3
   exact ⟨b, _, true, rfl, rfl, fun hlead => by exfalso; have := (HLD.out hlead).1; revert this; decide⟩
  ·have k3 : ((n : Int) == 3) = false := by rw [beq_eq_false_iff_ne]; omega
   go_wp2
   go_ret3
   exact ⟨0, 0, false, rfl, rfl, fun _ => rfl⟩
 have k1 : ((c0.toNat : Int) == 43) = false := byte_ne (d := 43) n1
 have k2 : ((c0.toNat : Int) == 45) = false := byte_ne (d := 45) n2
 have k3 : ((c0.toNat : Int) == 105) = false := byte_ne (d := 105) n3
 have k4 : ((c0.toNat : Int) == 73) = false := byte_ne (d := 73) n4
 have k5 : ((c0.toNat : Int) == 110) = false := byte_ne (d := 110) n5
 have k6 : ((c0.toNat : Int) == 78) = false := byte_ne (d := 78) n6
 go_wp2
 go_ret3
 exact ⟨0, 0, false, rfl, rfl, fun _ => rfl⟩
end Go.Proofs.YtillamhoakohdaaGreatDoor
