/-
  Walks: the program's small functions on tags and first bytes. Walks: the reference's reading of a plain text, whole. Walks: the reference's reading of a text under a tag.
-/
import Derived.Test.YtillamhoakohdaaGreatDoorM04
import Derived.Test.YtillamhoakohdaaGreatDoorM11
set_option linter.unusedVariables false
set_option linter.unusedSimpArgs false
namespace Go.Proofs.YtillamhoakohdaaGreatDoor
open Go.RowKit

theorem hasPrefix76 (s p : ByteArray) (l k : Bs) (w : World) (hl : StrIs s l) (hk : StrIs p k) (hs : s.size ≤ 1000) : Calls Tryz.prog 76 #[.string s, .string p] w fun e w' => e = .returned (.bool (decide (l.take k.length = k))) ∧ w = w' := by
 have hps : p.size = k.length := hk.size
 have hls := hl.size
 by_cases hz : p.size ≤ s.size
 ·have hzi : (p.size : Int) ≤ (s.size : Int) := by omega
  have htk := hl.take p.size
  have e1 : ((s.extract 0 p.size).toList == p.toList) = decide (l.take k.length = k) := by
   rw [Lib.toList_data, Lib.toList_data, htk, hk, hps]; rw [Bool.eq_iff_iff]; simp
  generalize decide (l.take k.length = k) = b at *
  clear hl hk htk hps hls
  go_enter Tryz.func76, Tryz.ntmps76
  go_wp2
  go_ret
  exact ⟨rfl, rfl⟩
 ·have hzi : decide ((p.size : Int) ≤ (s.size : Int)) = false := by simp; omega
  have hzj : (s.size : Int) < (p.size : Int) := by omega
  have hf : decide (l.take k.length = k) = false := by
   simp; intro h; have := congrArg List.length h; rw [List.length_take] at this; omega
  rw [hf]
  clear hl hk hf hps hls
  go_enter Tryz.func76, Tryz.ntmps76
  go_wp2
  go_ret
  exact ⟨rfl, rfl⟩
theorem hasPrefix_any (s p : ByteArray) (l k : Bs) (w : World) (hl : StrIs s l) (hk : StrIs p k) (hs : s.size ≤ 1000) : Calls Tryz.prog 43 #[.string s, .string p] w fun e w' => e = .returned (.bool (decide (l.take k.length = k))) ∧ w = w' := by
 go_enter Tryz.func43, Tryz.ntmps43
 go_wp2_with fail
 refine (hasPrefix76 s p l k _ hl hk hs).mono ?_
 rintro e w' ⟨rfl, rfl⟩
 go_wp2
 go_ret
 exact ⟨rfl, rfl⟩

theorem knownTag_any (s : ByteArray) (w : World) : Calls Tryz.prog 62 #[.string s] w fun e w' => (∃ b, e = .returned (.bool b)) ∧ w = w' := by
 cases e0 : (s.toList == [33, 33, 110, 117, 108, 108])
 rotate_left
 ·go_enter Tryz.func62, Tryz.ntmps62
  go_wp2
  go_ret
  exact ⟨⟨_, rfl⟩, rfl⟩
 cases e1 : (s.toList == [33, 33, 98, 111, 111, 108])
 rotate_left
 ·go_enter Tryz.func62, Tryz.ntmps62
  go_wp2
  go_ret
  exact ⟨⟨_, rfl⟩, rfl⟩
 cases e2 : (s.toList == [33, 33, 115, 116, 114])
 rotate_left
 ·go_enter Tryz.func62, Tryz.ntmps62
  go_wp2
  go_ret
  exact ⟨⟨_, rfl⟩, rfl⟩
 cases e3 : (s.toList == [33, 33, 105, 110, 116])
 rotate_left
 ·go_enter Tryz.func62, Tryz.ntmps62
  go_wp2
  go_ret
  exact ⟨⟨_, rfl⟩, rfl⟩
 cases e4 : (s.toList == [33, 33, 102, 108, 111, 97, 116])
 rotate_left
 ·go_enter Tryz.func62, Tryz.ntmps62
  go_wp2
  go_ret
  exact ⟨⟨_, rfl⟩, rfl⟩
 cases e5 : (s.toList == [33, 33, 116, 105, 109, 101, 115, 116, 97, 109, 112])
 rotate_left
 ·go_enter Tryz.func62, Tryz.ntmps62
  go_wp2
  go_ret
  exact ⟨⟨_, rfl⟩, rfl⟩
 cases e6 : (s.toList == [33, 33, 115, 101, 113])
 rotate_left
 ·go_enter Tryz.func62, Tryz.ntmps62
  go_wp2
  go_ret
  exact ⟨⟨_, rfl⟩, rfl⟩
 cases e7 : (s.toList == [33, 33, 109, 97, 112])
 rotate_left
 ·go_enter Tryz.func62, Tryz.ntmps62
  go_wp2
  go_ret
  exact ⟨⟨_, rfl⟩, rfl⟩
 cases e8 : (s.toList == [33, 33, 98, 105, 110, 97, 114, 121])
 rotate_left
 ·go_enter Tryz.func62, Tryz.ntmps62
  go_wp2
  go_ret
  exact ⟨⟨_, rfl⟩, rfl⟩
 cases e9 : (s.toList == [33, 33, 109, 101, 114, 103, 101])
 rotate_left
 ·go_enter Tryz.func62, Tryz.ntmps62
  go_wp2
  go_ret
  exact ⟨⟨_, rfl⟩, rfl⟩
 go_enter Tryz.func62, Tryz.ntmps62
 go_wp2
 go_ret
 exact ⟨⟨_, rfl⟩, rfl⟩

theorem resolvableTag_any (s : ByteArray) (t : Bs) (w : World) (ht : StrIs s t) : Calls Tryz.prog 32 #[.string s] w fun e w' => e = .returned (.bool (decide (t = [] ∨ t = tStr ∨ t = tBool ∨ t = tInt ∨ t = tFloat ∨ t = tNull ∨ t = tTime))) ∧ w = w' := by
 have HS : Hid (s.toList = t) := Lib.hid (by rw [Lib.toList_data]; exact ht)
 clear ht
 by_cases h0 : t = []
 ·have hd : decide (t = [] ∨ t = tStr ∨ t = tBool ∨ t = tInt ∨ t = tFloat ∨ t = tNull ∨ t = tTime) = true := by simp [h0]
  rw [hd]
  have e0 : s.toList.isEmpty = true := by rw [HS.out, h0]; rfl
  clear HS hd h0
  go_enter Tryz.func32, Tryz.ntmps32
  go_wp2
  go_ret
  exact ⟨rfl, rfl⟩
 by_cases h1 : t = tStr
 ·have hd : decide (t = [] ∨ t = tStr ∨ t = tBool ∨ t = tInt ∨ t = tFloat ∨ t = tNull ∨ t = tTime) = true := by simp [h1]
  rw [hd]
  have e0 : s.toList.isEmpty = false := by rw [HS.out, h1]; rfl
  have e1 : (s.toList == [33, 33, 115, 116, 114]) = true := by rw [HS.out, h1]; rfl
  clear HS hd h0 h1
  go_enter Tryz.func32, Tryz.ntmps32
  go_wp2
  go_ret
  exact ⟨rfl, rfl⟩
 by_cases h2 : t = tBool
 ·have hd : decide (t = [] ∨ t = tStr ∨ t = tBool ∨ t = tInt ∨ t = tFloat ∨ t = tNull ∨ t = tTime) = true := by simp [h2]
  rw [hd]
  have e0 : s.toList.isEmpty = false := by rw [HS.out, h2]; rfl
  have e1 : (s.toList == [33, 33, 115, 116, 114]) = false := by rw [HS.out, h2]; rfl
  have e2 : (s.toList == [33, 33, 98, 111, 111, 108]) = true := by rw [HS.out, h2]; rfl
  clear HS hd h0 h1 h2
  go_enter Tryz.func32, Tryz.ntmps32
  go_wp2
  go_ret
  exact ⟨rfl, rfl⟩
 by_cases h3 : t = tInt
 ·have hd : decide (t = [] ∨ t = tStr ∨ t = tBool ∨ t = tInt ∨ t = tFloat ∨ t = tNull ∨ t = tTime) = true := by simp [h3]
  rw [hd]
  have e0 : s.toList.isEmpty = false := by rw [HS.out, h3]; rfl
  have e1 : (s.toList == [33, 33, 115, 116, 114]) = false := by rw [HS.out, h3]; rfl
  have e2 : (s.toList == [33, 33, 98, 111, 111, 108]) = false := by rw [HS.out, h3]; rfl
  have e3 : (s.toList == [33, 33, 105, 110, 116]) = true := by rw [HS.out, h3]; rfl
  clear HS hd h0 h1 h2 h3
  go_enter Tryz.func32, Tryz.ntmps32
  go_wp2
  go_ret
  exact ⟨rfl, rfl⟩
 by_cases h4 : t = tFloat
 ·have hd : decide (t = [] ∨ t = tStr ∨ t = tBool ∨ t = tInt ∨ t = tFloat ∨ t = tNull ∨ t = tTime) = true := by simp [h4]
  rw [hd]
  have e0 : s.toList.isEmpty = false := by rw [HS.out, h4]; rfl
  have e1 : (s.toList == [33, 33, 115, 116, 114]) = false := by rw [HS.out, h4]; rfl
  have e2 : (s.toList == [33, 33, 98, 111, 111, 108]) = false := by rw [HS.out, h4]; rfl
  have e3 : (s.toList == [33, 33, 105, 110, 116]) = false := by rw [HS.out, h4]; rfl
  have e4 : (s.toList == [33, 33, 102, 108, 111, 97, 116]) = true := by rw [HS.out, h4]; rfl
  clear HS hd h0 h1 h2 h3 h4
  go_enter Tryz.func32, Tryz.ntmps32
  go_wp2
  go_ret
  exact ⟨rfl, rfl⟩
 by_cases h5 : t = tNull
 ·have hd : decide (t = [] ∨ t = tStr ∨ t = tBool ∨ t = tInt ∨ t = tFloat ∨ t = tNull ∨ t = tTime) = true := by simp [h5]
  rw [hd]
  have e0 : s.toList.isEmpty = false := by rw [HS.out, h5]; rfl
  have e1 : (s.toList == [33, 33, 115, 116, 114]) = false := by rw [HS.out, h5]; rfl
  have e2 : (s.toList == [33, 33, 98, 111, 111, 108]) = false := by rw [HS.out, h5]; rfl
  have e3 : (s.toList == [33, 33, 105, 110, 116]) = false := by rw [HS.out, h5]; rfl
  have e4 : (s.toList == [33, 33, 102, 108, 111, 97, 116]) = false := by rw [HS.out, h5]; rfl
  have e5 : (s.toList == [33, 33, 110, 117, 108, 108]) = true := by rw [HS.out, h5]; rfl
  clear HS hd h0 h1 h2 h3 h4 h5
  go_enter Tryz.func32, Tryz.ntmps32
  go_wp2
  go_ret
  exact ⟨rfl, rfl⟩
 by_cases h6 : t = tTime
 ·have hd : decide (t = [] ∨ t = tStr ∨ t = tBool ∨ t = tInt ∨ t = tFloat ∨ t = tNull ∨ t = tTime) = true := by simp [h6]
  rw [hd]
  have e0 : s.toList.isEmpty = false := by rw [HS.out, h6]; rfl
  have e1 : (s.toList == [33, 33, 115, 116, 114]) = false := by rw [HS.out, h6]; rfl
  have e2 : (s.toList == [33, 33, 98, 111, 111, 108]) = false := by rw [HS.out, h6]; rfl
  have e3 : (s.toList == [33, 33, 105, 110, 116]) = false := by rw [HS.out, h6]; rfl
  have e4 : (s.toList == [33, 33, 102, 108, 111, 97, 116]) = false := by rw [HS.out, h6]; rfl
  have e5 : (s.toList == [33, 33, 110, 117, 108, 108]) = false := by rw [HS.out, h6]; rfl
  have e6 : (s.toList == [33, 33, 116, 105, 109, 101, 115, 116, 97, 109, 112]) = true := by rw [HS.out, h6]; rfl
  clear HS hd h0 h1 h2 h3 h4 h5 h6
  go_enter Tryz.func32, Tryz.ntmps32
  go_wp2
  go_ret
  exact ⟨rfl, rfl⟩
 have hd : decide (t = [] ∨ t = tStr ∨ t = tBool ∨ t = tInt ∨ t = tFloat ∨ t = tNull ∨ t = tTime) = false := by simp [h0, h1, h2, h3, h4, h5, h6]
 rw [hd]
 have e0 : s.toList.isEmpty = false := by rw [HS.out]; cases t with | nil => exact absurd rfl h0 | cons a b => rfl
 have e1 : (s.toList == [33, 33, 115, 116, 114]) = false := by rw [HS.out]; exact beq_false_of_ne h1
 have e2 : (s.toList == [33, 33, 98, 111, 111, 108]) = false := by rw [HS.out]; exact beq_false_of_ne h2
 have e3 : (s.toList == [33, 33, 105, 110, 116]) = false := by rw [HS.out]; exact beq_false_of_ne h3
 have e4 : (s.toList == [33, 33, 102, 108, 111, 97, 116]) = false := by rw [HS.out]; exact beq_false_of_ne h4
 have e5 : (s.toList == [33, 33, 110, 117, 108, 108]) = false := by rw [HS.out]; exact beq_false_of_ne h5
 have e6 : (s.toList == [33, 33, 116, 105, 109, 101, 115, 116, 97, 109, 112]) = false := by rw [HS.out]; exact beq_false_of_ne h6
 clear HS hd h0 h1 h2 h3 h4 h5 h6
 go_enter Tryz.func32, Tryz.ntmps32
 go_wp2
 go_ret
 exact ⟨rfl, rfl⟩

def shortP (l : Bs) : Bs := if l.take 18 = [116, 97, 103, 58, 121, 97, 109, 108, 46, 111, 114, 103, 44, 50, 48, 48, 50, 58] then [33, 33] ++ l.drop 18 else l
theorem shortTag_any (s : ByteArray) (l : Bs) (w : World) (hl : StrIs s l) (hs : s.size ≤ 1000) : Calls Tryz.prog 31 #[.string s] w (StrPost (shortP l) w) := by
 go_enter Tryz.func31, Tryz.ntmps31
 go_wp2_with fail
 refine (hasPrefix_any s ⟨#[116, 97, 103, 58, 121, 97, 109, 108, 46, 111, 114, 103, 44, 50, 48, 48, 50, 58]⟩ l [116, 97, 103, 58, 121, 97, 109, 108, 46, 111, 114, 103, 44, 50, 48, 48, 50, 58] _ hl rfl hs).mono ?_
 rintro e w' ⟨rfl, rfl⟩
 by_cases ht : l.take 18 = [116, 97, 103, 58, 121, 97, 109, 108, 46, 111, 114, 103, 44, 50, 48, 48, 50, 58]
 ·have hd : decide (l.take [116, 97, 103, 58, 121, 97, 109, 108, 46, 111, 114, 103, 44, 50, 48, 48, 50, (58 : UInt8)].length = [116, 97, 103, 58, 121, 97, 109, 108, 46, 111, 114, 103, 44, 50, 48, 48, 50, 58]) = true := by simpa using ht
  rw [hd]
  have hz : (18 : Int) ≤ (s.size : Int) := by have := congrArg List.length ht; rw [List.length_take] at this; have := hl.size; simp at *; omega
  have hdr := hl.drop 18
  have hsh : Hid (shortP l = [33, 33] ++ l.drop 18) := Lib.hid (by unfold shortP; rw [if_pos ht])
  clear hd ht hl
  go_wp2_with fail
  refine (knownTag_any _ _).mono ?_
  rintro e w' ⟨⟨b, rfl⟩, rfl⟩
  cases b
  ·go_wp2
   exact bodyPost_ret (v := .string (⟨#[33, 33]⟩ ++ s.extract 18 s.size)) (by rw [results_tmp Tryz.results31]; rfl) rfl ⟨rfl, _, by rw [hsh.out]; exact StrIs.append rfl hdr, rfl⟩
  ·go_wp2
   exact bodyPost_ret (v := .string (⟨#[33, 33]⟩ ++ s.extract 18 s.size)) (by rw [results_tmp Tryz.results31]; rfl) rfl ⟨rfl, _, by rw [hsh.out]; exact StrIs.append rfl hdr, rfl⟩
 ·have hd : decide (l.take [116, 97, 103, 58, 121, 97, 109, 108, 46, 111, 114, 103, 44, 50, 48, 48, 50, (58 : UInt8)].length = [116, 97, 103, 58, 121, 97, 109, 108, 46, 111, 114, 103, 44, 50, 48, 48, 50, 58]) = false := by simpa using ht
  rw [hd]
  have hsh : Hid (shortP l = l) := Lib.hid (by unfold shortP; rw [if_neg ht])
  have HL := Lib.hid hl
  clear hd ht hl
  go_wp2
  exact bodyPost_ret (v := .string s) (by rw [results_tmp Tryz.results31]; rfl) rfl ⟨rfl, s, by rw [hsh.out]; exact HL.out, rfl⟩
end Go.Proofs.YtillamhoakohdaaGreatDoor
namespace Go.Proofs.YtillamhoakohdaaGreatDoor
open Go.RowKit
attribute [local go_sem] setCell_drewN

set_option maxRecDepth 100000 in
set_option maxHeartbeats 20000000 in
theorem ylPlain_c (HP : PFContract 50) (tg s : ByteArray) (t l : Bs) (w : World) (HG : Glob w) (ht : StrIs tg t) (hl : StrIs s l) (hs : s.size ≤ 200) (hx : wordOf l = none) (hk : Hid (∃ i, whole (bare l) = some (.uint i))) :
  Calls Tryz.prog 15 #[.string tg, .string s] w (PlainPost (plainOf (decide (t = [] ∨ t = tTime)) l) w) := by
 go_enter Tryz.func15, Tryz.ntmps15
 go_wp2_with fail
 refine (ylWord_any s l _ hl).mono ?_
 rintro e W1 ⟨hb1, ⟨tw, pv, sw, v, hw, htw, hv, rfl⟩ | ⟨hw, rfl⟩⟩
 ·rw [hx] at hw; cases hw
 have hG1 := G5.step (G5.new w) hb1
 clear hb1
 obtain ⟨c, r, hlc⟩ := word_none hw
 have hp : 0 < s.size := by rw [hl.size, hlc]; simp
 have hpi : (0 : Int) < (s.size : Int) := by omega
 have HB0 : Hid (s[0] = c) := Lib.hid (by have := hl.get 0 hp; rw [hlc] at this; simp at this; exact this.symm)
 have HL := Lib.hid hl
 have HW := Lib.hid hw
 have HT := Lib.hid ht
 have HLC := Lib.hid hlc
 clear hl hw ht hlc
 go_upto_region 4 with (refine store28 rfl _ _ rfl _ _ rfl rfl (by rfl) (by rfl) 28 _ (heap_alloc_new _ _) (by rfl) ?_; rw [World.setRow_alloc_new])
 have hG2 := hG1.alloc (.cells z28 28 (0, 0))
 clear hG1
 generalize hW : World.alloc W1 _ = W2 at *
 change World.alloc W1 (.cells #[.int .i64 0, .bool false, .int .i64 0, .int .u64 0, .int .u64 0, .string ⟨#[]⟩, .int .i64 0, .int .i64 0, .int .i64 0, .int .i64 0, .int .i64 0, .int .i64 0, .int .i64 0, .int .i64 0, .slice none 0 0, .slice none 0 0] 28 (0, 0)) = W2 at hW
 try rw [hW]
 clear hW
 by_cases hc : c = 46
 ·have T0 : Hid (plainOf (decide (t = [] ∨ t = tTime)) l = (match pf l with | some n => (tFloat, .flt n) | none => (tStr, .txt l))) := Lib.hid (plain_dot HW.out (by rw [HLC.out, hc]))
  have f1 : ((s[0].toNat : Int) == 46) = true := byte_eq (c := s[0]) (d := 46) (by rw [HB0.out, hc])
  have hld : lead l := .inl (by rw [HLC.out, hc]; rfl)
  clear hc
  go_wp2_with fail
  refine (ylParsed_of HP s l _ (HG.below hG2.2) HL.out hs).mono ?_
  rintro e W3 ⟨hb3, n, ok, rfl, hpf⟩
  have hG3 := hG2.step hb3
  have hpf := hpf hld
  clear hb3 hG2 hld
  cases ok
  ·have T : Hid (plainOf (decide (t = [] ∨ t = tTime)) l = (tStr, .txt l)) := Lib.hid (by rw [T0.out, hpf]; rfl)
   clear hpf T0
   go_wp2_with fail
   refine (textOf_any s _).mono ?_
   rintro e Wz ⟨rfl, hbz⟩
   have hgz := (hG3.step hbz)
   clear hbz
   go_wp2_with (refine store28 rfl _ _ rfl _ _ rfl rfl (by rfl) (by rfl) 28 _ hgz.1 (by rfl) ?_)
   exact bodyPost_ret (v := .tuple #[.string ⟨#[33, 33, 115, 116, 114]⟩, .agg (vCells 5 false 0 0 0 s 0 0 0 0 0 0 0 0)]) (results_x28 Tryz.results15 _ _ _ _ _ _ rfl (row28_set _ _ _ _ hgz.1) rfl) rfl
    ⟨below_setRow hgz.2 (Nat.le_refl _), _, _, by rw [T.out]; rfl, by rw [T.out]; exact VIs.txt s l HL.out, rfl⟩
  ·have T : Hid (plainOf (decide (t = [] ∨ t = tTime)) l = (tFloat, .flt n)) := Lib.hid (by rw [T0.out, hpf]; rfl)
   clear hpf T0
   go_wp2_with fail
   refine (floatOf_any n _).mono ?_
   rintro e Wz ⟨rfl, hbz⟩
   have hgz := (hG3.step hbz)
   clear hbz
   go_wp2_with (refine store28 rfl _ _ rfl _ _ rfl rfl (by rfl) (by rfl) 28 _ hgz.1 (by rfl) ?_)
   exact bodyPost_ret (v := .tuple #[.string ⟨#[33, 33, 102, 108, 111, 97, 116]⟩, .agg (vCells 4 false 0 0 n ⟨#[]⟩ 0 0 0 0 0 0 0 0)]) (results_x28 Tryz.results15 _ _ _ _ _ _ rfl (row28_set _ _ _ _ hgz.1) rfl) rfl
    ⟨below_setRow hgz.2 (Nat.le_refl _), _, _, by rw [T.out]; rfl, by rw [T.out]; exact VIs.flt n, rfl⟩
 have f1 : ((s[0].toNat : Int) == 46) = false := byte_ne (c := s[0]) (d := 46) (by rw [HB0.out]; exact hc)
 by_cases hn : isDig c = true ∨ c = 45 ∨ c = 43
 rotate_left
 ·have T : Hid (plainOf (decide (t = [] ∨ t = tTime)) l = (tStr, .txt l)) := Lib.hid (plain_else HW.out HLC.out hc hn)
  have f2 : ((s[0].toNat : Int) == 45) = false := byte_ne (c := s[0]) (d := 45) (by rw [HB0.out]; exact fun h => hn (.inr (.inl h)))
  have f3 : ((s[0].toNat : Int) == 43) = false := byte_ne (c := s[0]) (d := 43) (by rw [HB0.out]; exact fun h => hn (.inr (.inr h)))
  have hnd : ¬ (48 ≤ c.toNat ∧ c.toNat ≤ 57) := fun h => hn (.inl (by simp [isDig, h]))
  clear hn
  go_upto_region 9 with fail
  go_cut [41] (fun v wc => v = .bool false ∧ W2 = wc)
  case first =>
   by_cases h48 : 48 ≤ c.toNat
   ·have g1 : (48 : Int) ≤ (s[0].toNat : Int) := by rw [HB0.out]; omega
    have g2 : decide ((s[0].toNat : Int) ≤ 57) = false := by rw [HB0.out]; simp; omega
    have g3 : (57 : Int) < (s[0].toNat : Int) := by rw [HB0.out]; omega
    clear hnd h48
    go_wp2
    go_meet
    case rel => exact ⟨rfl, rfl⟩
   ·have g1 : decide ((48 : Int) ≤ (s[0].toNat : Int)) = false := by rw [HB0.out]; simp; omega
    have g3 : (s[0].toNat : Int) < (48 : Int) := by rw [HB0.out]; omega
    clear hnd h48
    go_wp2
    go_meet
    case rel => exact ⟨rfl, rfl⟩
  case rest =>
  obtain ⟨rfl, rfl⟩ := hcut
  go_wp2_with fail
  refine (textOf_any s _).mono ?_
  rintro e Wz ⟨rfl, hbz⟩
  have hgz := (hG2.step hbz)
  clear hbz
  go_wp2_with (refine store28 rfl _ _ rfl _ _ rfl rfl (by rfl) (by rfl) 28 _ hgz.1 (by rfl) ?_)
  exact bodyPost_ret (v := .tuple #[.string ⟨#[33, 33, 115, 116, 114]⟩, .agg (vCells 5 false 0 0 0 s 0 0 0 0 0 0 0 0)]) (results_x28 Tryz.results15 _ _ _ _ _ _ rfl (row28_set _ _ _ _ hgz.1) rfl) rfl
   ⟨below_setRow hgz.2 (Nat.le_refl _), _, _, by rw [T.out]; rfl, by rw [T.out]; exact VIs.txt s l HL.out, rfl⟩
 have T0 : Hid (plainOf (decide (t = [] ∨ t = tTime)) l = (match (if decide (t = [] ∨ t = tTime) = true then timeOf l else none) with | some a => (tTime, .tim a) | none => numOf l)) := Lib.hid (plain_num HW.out HLC.out hc hn)
 go_upto_region 9 with fail
 go_cut [41] (fun v wc => v = .bool true ∧ W2 = wc)
 case first =>
  rcases hn with hn | hn | hn
  ·have hnd : 48 ≤ c.toNat ∧ c.toNat ≤ 57 := by simpa [isDig] using hn
   have g1 : (48 : Int) ≤ (s[0].toNat : Int) := by rw [HB0.out]; omega
   have g2 : (s[0].toNat : Int) ≤ 57 := by rw [HB0.out]; omega
   clear hnd hn hc
   go_wp2
   go_meet
   case rel => exact ⟨rfl, rfl⟩
  ·have g1 : decide ((48 : Int) ≤ (s[0].toNat : Int)) = false := by rw [HB0.out, hn]; decide
   have g3 : (s[0].toNat : Int) < (48 : Int) := by rw [HB0.out, hn]; decide
   have f2 : ((s[0].toNat : Int) == 45) = true := byte_eq (c := s[0]) (d := 45) (by rw [HB0.out, hn])
   clear hn hc
   go_wp2
   go_meet
   case rel => exact ⟨rfl, rfl⟩
  ·have g1 : decide ((48 : Int) ≤ (s[0].toNat : Int)) = false := by rw [HB0.out, hn]; decide
   have g3 : (s[0].toNat : Int) < (48 : Int) := by rw [HB0.out, hn]; decide
   have f2 : ((s[0].toNat : Int) == 45) = false := byte_ne (c := s[0]) (d := 45) (by rw [HB0.out, hn]; decide)
   have f3 : ((s[0].toNat : Int) == 43) = true := byte_eq (c := s[0]) (d := 43) (by rw [HB0.out, hn])
   clear hn hc
   go_wp2
   go_meet
   case rel => exact ⟨rfl, rfl⟩
 case rest =>
 obtain ⟨rfl, rfl⟩ := hcut
 clear hn hc
 go_wp2_with fail
 refine (ylTime_any s l _ HL.out (Nat.le_trans hs (by decide))).mono ?_
 rintro e W3 ⟨hb3, t0, t1, t2, t3, t4, t5, t6, t7, rfl, hti⟩
 have hG3 := hG2.step hb3
 clear hb3 hG2
 have HTI := Lib.hid hti
 clear hti
 go_upto_region 11 with (refine store25 rfl _ _ rfl _ _ rfl rfl (by rfl) (by rfl) 25 _ (heap_alloc_new _ _) (by rfl) ?_; rw [World.setRow_alloc_new])
 have hg12 := heap_alloc_new W3 (.cells (tCells t0 t1 t2 t3 t4 t5 t6 t7) 25 (0, 0))
 have hG4 := hG3.alloc (.cells (tCells t0 t1 t2 t3 t4 t5 t6 t7) 25 (0, 0))
 clear hG3
 generalize W3.heap.size = g12 at *
 generalize hW : World.alloc W3 _ = W4 at *
 change World.alloc W3 (.cells #[.int .i64 t0, .int .i64 t1, .int .i64 t2, .int .i64 t3, .int .i64 t4, .int .i64 t5, .int .i64 t6, .int .i64 t7] 25 (0, 0)) = W4 at hW
 try rw [hW]
 clear hW
 generalize hbs : (timeOf l).isSome = bs at *
 have HBS := Lib.hid hbs
 clear hbs
 go_cut [69] (fun v wc => v = .bool (bs && decide (t = [] ∨ t = tTime)) ∧ W4 = wc)
 case first =>
  cases bs
  ·go_wp2
   go_meet
   case rel => exact ⟨rfl, rfl⟩
  ·by_cases h1 : t = []
   ·have e1 : tg.toList.isEmpty = true := by rw [Lib.toList_data, HT.out, h1]; rfl
    go_wp2
    go_meet
    case rel => exact ⟨by simp [h1], rfl⟩
   ·have e1 : tg.toList.isEmpty = false := by rw [Lib.toList_data, HT.out]; cases t with | nil => exact absurd rfl h1 | cons a b => rfl
    by_cases h2 : t = tTime
    ·have e2 : (tg.toList == [33, 33, 116, 105, 109, 101, 115, 116, 97, 109, 112]) = true := by rw [Lib.toList_data, HT.out, h2]; rfl
     go_wp2
     go_meet
     case rel => exact ⟨by simp [h2], rfl⟩
    ·have e2 : (tg.toList == [33, 33, 116, 105, 109, 101, 115, 116, 97, 109, 112]) = false := by rw [Lib.toList_data, HT.out]; exact beq_false_of_ne h2
     go_wp2
     go_meet
     case rel => exact ⟨by simp [h1, h2], rfl⟩
 case rest =>
 obtain ⟨rfl, rfl⟩ := hcut
 generalize htm : decide (t = [] ∨ t = tTime) = tm at *
 clear htm
 cases hbt : (bs && tm)
 rotate_left
 ·have T : Hid (plainOf tm l = (tTime, .tim [t0, t1, t2, t3, t4, t5, t6, t7])) := Lib.hid (by
   obtain ⟨h1, h2⟩ := Bool.and_eq_true_iff.1 hbt
   obtain ⟨x, hx⟩ := Option.isSome_iff_exists.1 (HBS.out.trans h1)
   rw [T0.out, if_pos h2, hx, HTI.out x hx])
  clear hbt T0 HTI HBS
  obtain ⟨hd0, hd1, hd2, hd3, hd4, hd5, hd6, hd7⟩ := cells8 hg12
  have hg5 := hG4.1
  obtain ⟨hz0, hz1, hz2, hz3, hz4, hz5, hz6, hz7, hz8, hz9, hz10, hz11, hz12, hz13, hz14, hz15⟩ := cells16 (k := 0) (b := false) (i := 0) (u := 0) (f := 0) (t := ⟨#[]⟩) (a0 := 0) (a1 := 0) (a2 := 0) (a3 := 0) (a4 := 0) (a5 := 0) (a6 := 0) (a7 := 0) hg5
  obtain ⟨hy0, hy1, hy2, hy3, hy4, hy5, hy6, hy7, hy8, hy9, hy10, hy11, hy12, hy13, hy14, hy15⟩ := froz16 hg5
  go_upto_region 12 with fail
  go_region
  go_wp2
  exact bodyPost_ret (v := .tuple #[.string ⟨#[33, 33, 116, 105, 109, 101, 115, 116, 97, 109, 112]⟩, .agg (vCells 9 false 0 0 0 ⟨#[]⟩ t0 t1 t2 t3 t4 t5 t6 t7)]) (results_x28 Tryz.results15 _ _ _ _ _ _ rfl (hg_drewN (n := 1) (put16_fin hG4 (Nat.le_refl _) 9 false 0 0 0 ⟨#[]⟩ t0 t1 t2 t3 t4 t5 t6 t7).1) rfl) rfl
   ⟨below_drewN (put16_fin hG4 (Nat.le_refl _) 9 false 0 0 0 ⟨#[]⟩ t0 t1 t2 t3 t4 t5 t6 t7).2 1, _, _, by rw [T.out]; rfl, by rw [T.out]; exact VIs.tim t0 t1 t2 t3 t4 t5 t6 t7, rfl⟩
 have T1 : Hid (plainOf tm l = numOf l) := Lib.hid (by
  rw [T0.out]
  have : (if tm = true then timeOf l else none) = none := by
   cases tm
   ·rfl
   ·cases bs
    ·have := HBS.out; rw [if_pos rfl]; cases h : timeOf l with | none => rfl | some a => rw [h] at this; cases this
    ·cases hbt
  rw [this])
 clear hbt T0 HTI HBS hg12
 go_wp2_with fail
 refine (ylBare_any s l _ HL.out (Nat.le_trans hs (by decide))).mono ?_
 rintro e W4b ⟨hb4, rb, hrb, rfl⟩
 have hG4b := hG4.step hb4
 clear hb4 hG4
 have hrs : rb.size ≤ 200 := by
  have h1 := hrb.size
  have h2 : (bare l).length ≤ l.length := List.length_filter_le _ _
  have h3 := HL.out.size
  omega
 have HRB := Lib.hid hrb
 clear hrb
 go_wp2_with fail
 refine (ylWhole_any rb (bare l) _ HRB.out (by unfold maxLen; omega)).mono ?_
 rintro e W5 ⟨hb5, ⟨hwh, rfl⟩ | ⟨i, hwh, rfl⟩ | ⟨i, hwh, rfl⟩⟩
 rotate_left
 ·obtain ⟨j, hj⟩ := hk.out; rw [hwh] at hj; cases hj
 ·have T : Hid (plainOf tm l = (tInt, .uint i)) := Lib.hid (by rw [T1.out]; unfold numOf; rw [hwh])
  have hG5 := hG4b.step hb5
  clear T1 hb5 hG4b hwh
  go_upto_region 15 with (refine store28 rfl _ _ rfl _ _ rfl rfl (by rfl) (by rfl) 28 _ (heap_alloc_new _ _) (by rfl) ?_; rw [World.setRow_alloc_new])
  have hg7 := heap_alloc_new W5 (.cells (vCells 3 false 0 i 0 ⟨#[]⟩ 0 0 0 0 0 0 0 0) 28 (0, 0))
  have hG6 := hG5.alloc (.cells (vCells 3 false 0 i 0 ⟨#[]⟩ 0 0 0 0 0 0 0 0) 28 (0, 0))
  clear hG5
  generalize W5.heap.size = g15 at *
  generalize hW : World.alloc W5 _ = W6 at *
  change World.alloc W5 (.cells #[.int .i64 3, .bool false, .int .i64 0, .int .u64 i, .int .u64 0, .string ⟨#[]⟩, .int .i64 0, .int .i64 0, .int .i64 0, .int .i64 0, .int .i64 0, .int .i64 0, .int .i64 0, .int .i64 0, .slice none 0 0, .slice none 0 0] 28 (0, 0)) = W6 at hW
  try rw [hW]
  clear hW
  have hg5 := hG6.1
  obtain ⟨hd0, hd1, hd2, hd3, hd4, hd5, hd6, hd7, hd8, hd9, hd10, hd11, hd12, hd13, hd14, hd15⟩ := cells16 hg7
  obtain ⟨hz0, hz1, hz2, hz3, hz4, hz5, hz6, hz7, hz8, hz9, hz10, hz11, hz12, hz13, hz14, hz15⟩ := cells16 (k := 0) (b := false) (i := 0) (u := 0) (f := 0) (t := ⟨#[]⟩) (a0 := 0) (a1 := 0) (a2 := 0) (a3 := 0) (a4 := 0) (a5 := 0) (a6 := 0) (a7 := 0) hg5
  obtain ⟨hy0, hy1, hy2, hy3, hy4, hy5, hy6, hy7, hy8, hy9, hy10, hy11, hy12, hy13, hy14, hy15⟩ := froz16 hg5
  go_upto_region 16 with fail
  go_region
  go_wp2
  exact bodyPost_ret (v := .tuple #[.string ⟨#[33, 33, 105, 110, 116]⟩, .agg (vCells 3 false 0 i 0 ⟨#[]⟩ 0 0 0 0 0 0 0 0)]) (results_x28 Tryz.results15 _ _ _ _ _ _ rfl (hg_drewN (n := 1) (put16_fin hG6 (Nat.le_refl _) 3 false 0 i 0 ⟨#[]⟩ 0 0 0 0 0 0 0 0).1) rfl) rfl
   ⟨below_drewN (put16_fin hG6 (Nat.le_refl _) 3 false 0 i 0 ⟨#[]⟩ 0 0 0 0 0 0 0 0).2 1, _, _, by rw [T.out]; rfl, by rw [T.out]; exact VIs.uint i, rfl⟩
 ·obtain ⟨j, hj⟩ := hk.out; rw [hwh] at hj; cases hj

theorem ylPlain_of (HP : PFContract 50) (tg s : ByteArray) (t l : Bs) (w : World) (HG : Glob w) (ht : StrIs tg t) (hl : StrIs s l) (hs : s.size ≤ 200) :
  Calls Tryz.prog 15 #[.string tg, .string s] w (PlainPost (plainOf (decide (t = [] ∨ t = tTime)) l) w) := by
 cases hx : wordOf l with
 | some x => exact ylPlain_word HP tg s t l w HG ht hl hs x hx
 | none =>
  by_cases hk : ∃ i, whole (bare l) = some (.uint i)
  ·exact ylPlain_c HP tg s t l w HG ht hl hs hx (Lib.hid hk)
  ·exact ylPlain_b HP tg s t l w HG ht hl hs hx (Lib.hid fun i h => hk ⟨i, h⟩)
end Go.Proofs.YtillamhoakohdaaGreatDoor
namespace Go.Proofs.YtillamhoakohdaaGreatDoor
open Go.RowKit
attribute [local go_sem] setCell_drewN

def isCore (t : Bs) : Prop := t = [] ∨ t = tStr ∨ t = tBool ∨ t = tInt ∨ t = tFloat ∨ t = tNull ∨ t = tTime
theorem under_out {t l : Bs} (h : ¬ isCore t) : underOf t l = some (t, .txt l) := by unfold underOf; exact if_neg h
theorem under_str (l : Bs) : underOf tStr l = some (tStr, .txt l) := by
 unfold underOf; rw [if_pos (.inr (.inl rfl))]; simp
theorem under_yes {t l : Bs} {f : Bs} {v : PV} (h : isCore t) (hs : t ≠ tStr) (hf : plainOf (decide (t = [] ∨ t = tTime)) l = (f, v)) (h2 : t = [] ∨ t = f) : underOf t l = some (f, v) := by
 unfold isCore at h; unfold underOf; rw [if_pos h]; simp only [if_neg hs, hf]; rw [if_pos (by rcases h2 with h | h <;> simp [h])]
theorem under_int {t l : Bs} {f : Bs} {i : Int} (h : isCore t) (hs : t ≠ tStr) (hf : plainOf (decide (t = [] ∨ t = tTime)) l = (f, .int i)) (h2 : ¬ (t = [] ∨ t = f)) (h3 : t = tFloat) : underOf t l = some (tFloat, .flt (floatOfInt .f64 i)) := by
 unfold isCore at h; unfold underOf; rw [if_pos h]; simp only [if_neg hs, hf]; rw [if_neg (by intro e; rcases e with e | e | e; exact h2 (.inl e); exact h2 (.inr e); exact hs e), if_pos h3]
theorem under_no {t l : Bs} {f : Bs} {v : PV} (h : isCore t) (hs : t ≠ tStr) (hf : plainOf (decide (t = [] ∨ t = tTime)) l = (f, v)) (h2 : ¬ (t = [] ∨ t = f)) (h3 : t = tFloat → ∀ i, v ≠ .int i) : underOf t l = none := by
 unfold isCore at h; unfold underOf; rw [if_pos h]; simp only [if_neg hs, hf]; rw [if_neg (by intro e; rcases e with e | e | e; exact h2 (.inl e); exact h2 (.inr e); exact hs e)]
 by_cases h4 : t = tFloat
 ·rw [if_pos h4]
  cases v with
  | int i => exact absurd rfl (h3 h4 i)
  | _ => rfl
 ·rw [if_neg h4]

def ResPost (x : Option (Bs × PV)) (w : World) (e : Ending) (w' : World) : Prop := Below w.heap.size w w' ∧
 ((∃ t p s v, x = some (t, p) ∧ StrIs s t ∧ VIs p v ∧ e = .returned (.tuple #[.string s, v, .bool true])) ∨ (x = none ∧ e = .returned (.tuple #[.string ⟨#[]⟩, .agg z28, .bool false])))
theorem resPost_some {x : Option (Bs × PV)} {w w' : World} {t : Bs} {p : PV} {s : ByteArray} {v : Value} (hb : Below w.heap.size w w') (h1 : x = some (t, p)) (h2 : StrIs s t) (h3 : VIs p v) : ResPost x w (.returned (.tuple #[.string s, v, .bool true])) w' :=
 ⟨hb, .inl ⟨t, p, s, v, h1, h2, h3, rfl⟩⟩
theorem VIs.kind {p : PV} {k : Int} {b : Bool} {i u f : Int} {t : ByteArray} {a0 a1 a2 a3 a4 a5 a6 a7 : Int} (h : VIs p (.agg (vCells k b i u f t a0 a1 a2 a3 a4 a5 a6 a7))) : (p = .int i ∧ k = 2) ∨ (k ≠ 2 ∧ ∀ j, p ≠ .int j) := by
 cases h
 case int => exact .inl ⟨rfl, rfl⟩
 all_goals exact .inr ⟨by decide, fun j => by intro e; cases e⟩

set_option maxRecDepth 100000 in
set_option maxHeartbeats 20000000 in
theorem ylResolve_of (HP : PFContract 50) (tg s : ByteArray) (t0 l : Bs) (w : World) (HG : Glob w) (ht : StrIs tg t0) (hl : StrIs s l) (hs : s.size ≤ 200) (hts : tg.size ≤ 1000) :
  Calls Tryz.prog 6 #[.string tg, .string s] w (ResPost (underOf (short t0) l) w) := by
 go_enter Tryz.func6, Tryz.ntmps6
 go_wp2_with fail
 refine (ylShort_any tg t0 _ ht hts).mono ?_
 rintro e W1 ⟨rfl, ts, hsh, rfl⟩
 generalize short t0 = t at *
 have hG0 := G5.new w
 clear ht
 go_upto_region 2 with fail
 generalize hW : World.alloc w _ = W1 at *
 change World.alloc w (.cells #[.int .i64 0, .bool false, .int .i64 0, .int .u64 0, .int .u64 0, .string ⟨#[]⟩, .int .i64 0, .int .i64 0, .int .i64 0, .int .i64 0, .int .i64 0, .int .i64 0, .int .i64 0, .int .i64 0, .slice none 0 0, .slice none 0 0] 28 (0, 0)) = W1 at hW
 try rw [hW]
 clear hW
 have HS : Hid (ts.toList = t) := Lib.hid (by rw [Lib.toList_data]; exact hsh)
 have HSH := Lib.hid hsh
 have HL := Lib.hid hl
 clear hsh hl
 go_upto_block 0 with fail
 go_cut [15] (fun v wc => isCore t ∧ v = .bool true ∧ W1 = wc)
 case first =>
  by_cases h0 : t = []
  ·have e0 : ts.toList.isEmpty = true := by rw [HS.out, h0]; rfl
   clear HS
   go_wp2
   go_meet
   case rel => exact ⟨by rw [h0]; unfold isCore; simp, rfl, rfl⟩
  by_cases h1 : t = tStr
  ·have e0 : ts.toList.isEmpty = false := by rw [HS.out, h1]; rfl
   have e1 : (ts.toList == [33, 33, 115, 116, 114]) = true := by rw [HS.out, h1]; rfl
   clear HS
   go_wp2
   go_meet
   case rel => exact ⟨by rw [h1]; unfold isCore; simp, rfl, rfl⟩
  by_cases h2 : t = tBool
  ·have e0 : ts.toList.isEmpty = false := by rw [HS.out, h2]; rfl
   have e1 : (ts.toList == [33, 33, 115, 116, 114]) = false := by rw [HS.out, h2]; rfl
   have e2 : (ts.toList == [33, 33, 98, 111, 111, 108]) = true := by rw [HS.out, h2]; rfl
   clear HS
   go_wp2
   go_meet
   case rel => exact ⟨by rw [h2]; unfold isCore; simp, rfl, rfl⟩
  by_cases h3 : t = tInt
  ·have e0 : ts.toList.isEmpty = false := by rw [HS.out, h3]; rfl
   have e1 : (ts.toList == [33, 33, 115, 116, 114]) = false := by rw [HS.out, h3]; rfl
   have e2 : (ts.toList == [33, 33, 98, 111, 111, 108]) = false := by rw [HS.out, h3]; rfl
   have e3 : (ts.toList == [33, 33, 105, 110, 116]) = true := by rw [HS.out, h3]; rfl
   clear HS
   go_wp2
   go_meet
   case rel => exact ⟨by rw [h3]; unfold isCore; simp, rfl, rfl⟩
  by_cases h4 : t = tFloat
  ·have e0 : ts.toList.isEmpty = false := by rw [HS.out, h4]; rfl
   have e1 : (ts.toList == [33, 33, 115, 116, 114]) = false := by rw [HS.out, h4]; rfl
   have e2 : (ts.toList == [33, 33, 98, 111, 111, 108]) = false := by rw [HS.out, h4]; rfl
   have e3 : (ts.toList == [33, 33, 105, 110, 116]) = false := by rw [HS.out, h4]; rfl
   have e4 : (ts.toList == [33, 33, 102, 108, 111, 97, 116]) = true := by rw [HS.out, h4]; rfl
   clear HS
   go_wp2
   go_meet
   case rel => exact ⟨by rw [h4]; unfold isCore; simp, rfl, rfl⟩
  by_cases h5 : t = tNull
  ·have e0 : ts.toList.isEmpty = false := by rw [HS.out, h5]; rfl
   have e1 : (ts.toList == [33, 33, 115, 116, 114]) = false := by rw [HS.out, h5]; rfl
   have e2 : (ts.toList == [33, 33, 98, 111, 111, 108]) = false := by rw [HS.out, h5]; rfl
   have e3 : (ts.toList == [33, 33, 105, 110, 116]) = false := by rw [HS.out, h5]; rfl
   have e4 : (ts.toList == [33, 33, 102, 108, 111, 97, 116]) = false := by rw [HS.out, h5]; rfl
   have e5 : (ts.toList == [33, 33, 110, 117, 108, 108]) = true := by rw [HS.out, h5]; rfl
   clear HS
   go_wp2
   go_meet
   case rel => exact ⟨by rw [h5]; unfold isCore; simp, rfl, rfl⟩
  by_cases h6 : t = tTime
  ·have e0 : ts.toList.isEmpty = false := by rw [HS.out, h6]; rfl
   have e1 : (ts.toList == [33, 33, 115, 116, 114]) = false := by rw [HS.out, h6]; rfl
   have e2 : (ts.toList == [33, 33, 98, 111, 111, 108]) = false := by rw [HS.out, h6]; rfl
   have e3 : (ts.toList == [33, 33, 105, 110, 116]) = false := by rw [HS.out, h6]; rfl
   have e4 : (ts.toList == [33, 33, 102, 108, 111, 97, 116]) = false := by rw [HS.out, h6]; rfl
   have e5 : (ts.toList == [33, 33, 110, 117, 108, 108]) = false := by rw [HS.out, h6]; rfl
   have e6 : (ts.toList == [33, 33, 116, 105, 109, 101, 115, 116, 97, 109, 112]) = true := by rw [HS.out, h6]; rfl
   clear HS
   go_wp2
   go_meet
   case rel => exact ⟨by rw [h6]; unfold isCore; simp, rfl, rfl⟩
  have e0 : ts.toList.isEmpty = false := by rw [HS.out]; cases t with | nil => exact absurd rfl h0 | cons a b => rfl
  have e1 : (ts.toList == [33, 33, 115, 116, 114]) = false := by rw [HS.out]; exact beq_false_of_ne h1
  have e2 : (ts.toList == [33, 33, 98, 111, 111, 108]) = false := by rw [HS.out]; exact beq_false_of_ne h2
  have e3 : (ts.toList == [33, 33, 105, 110, 116]) = false := by rw [HS.out]; exact beq_false_of_ne h3
  have e4 : (ts.toList == [33, 33, 102, 108, 111, 97, 116]) = false := by rw [HS.out]; exact beq_false_of_ne h4
  have e5 : (ts.toList == [33, 33, 110, 117, 108, 108]) = false := by rw [HS.out]; exact beq_false_of_ne h5
  have e6 : (ts.toList == [33, 33, 116, 105, 109, 101, 115, 116, 97, 109, 112]) = false := by rw [HS.out]; exact beq_false_of_ne h6
  have T : Hid (underOf t l = some (t, .txt l)) := Lib.hid (under_out (by unfold isCore; simp [h0, h1, h2, h3, h4, h5, h6]))
  clear HS h0 h1 h2 h3 h4 h5 h6
  go_wp2_with fail
  refine (textOf_any s _).mono ?_
  rintro e W2 ⟨rfl, hb⟩
  have hG1 := hG0.step hb
  clear hb hG0
  go_wp2_with (refine store28 rfl _ _ rfl _ _ rfl rfl (by rfl) (by rfl) 28 _ hG1.1 (by rfl) ?_)
  exact bodyPost_ret (v := .tuple #[.string ts, .agg (vCells 5 false 0 0 0 s 0 0 0 0 0 0 0 0), .bool true]) (results_x28x Tryz.results6 _ _ _ _ _ _ rfl (row28_set _ _ _ _ hG1.1) rfl) rfl
   (resPost_some (below_setRow hG1.2 (Nat.le_refl _)) T.out HSH.out (VIs.txt s l HL.out))
 case rest =>
 obtain ⟨hcore, rfl, rfl⟩ := hcut
 go_wp2_with fail
 refine (textOf_any s _).mono ?_
 rintro e W2 ⟨rfl, hb⟩
 have hG1 := hG0.step hb
 clear hb hG0
 go_upto_region 12 with (refine store28 rfl _ _ rfl _ _ rfl rfl (by rfl) (by rfl) 28 _ (heap_alloc_new _ _) (by rfl) ?_; rw [World.setRow_alloc_new])
 have hg8 := heap_alloc_new W2 (.cells (vCells 5 false 0 0 0 s 0 0 0 0 0 0 0 0) 28 (0, 0))
 have hG2 := hG1.alloc (.cells (vCells 5 false 0 0 0 s 0 0 0 0 0 0 0 0) 28 (0, 0))
 have hne : w.heap.size < W2.heap.size := hG1.lt
 clear hG1
 generalize W2.heap.size = g8 at *
 generalize hW : World.alloc W2 _ = W3 at *
 change World.alloc W2 (.cells #[.int .i64 5, .bool false, .int .i64 0, .int .u64 0, .int .u64 0, .string s, .int .i64 0, .int .i64 0, .int .i64 0, .int .i64 0, .int .i64 0, .int .i64 0, .int .i64 0, .int .i64 0, .slice none 0 0, .slice none 0 0] 28 (0, 0)) = W3 at hW
 try rw [hW]
 clear hW
 by_cases hstr : t = tStr
 ·have e0 : ts.toList.isEmpty = false := by rw [HS.out, hstr]; rfl
  have e1 : (ts.toList == [33, 33, 115, 116, 114]) = true := by rw [HS.out, hstr]; rfl
  have e2 : (ts.toList != [33, 33, 115, 116, 114]) = false := by rw [HS.out, hstr]; rfl
  have T : Hid (underOf t l = some (tStr, .txt l)) := Lib.hid (by rw [hstr]; exact under_str l)
  clear HS hstr hcore
  have hg5 := hG2.1
  obtain ⟨hd0, hd1, hd2, hd3, hd4, hd5, hd6, hd7, hd8, hd9, hd10, hd11, hd12, hd13, hd14, hd15⟩ := cells16 hg8
  obtain ⟨hz0, hz1, hz2, hz3, hz4, hz5, hz6, hz7, hz8, hz9, hz10, hz11, hz12, hz13, hz14, hz15⟩ := cells16 (k := 0) (b := false) (i := 0) (u := 0) (f := 0) (t := ⟨#[]⟩) (a0 := 0) (a1 := 0) (a2 := 0) (a3 := 0) (a4 := 0) (a5 := 0) (a6 := 0) (a7 := 0) hg5
  obtain ⟨hy0, hy1, hy2, hy3, hy4, hy5, hy6, hy7, hy8, hy9, hy10, hy11, hy12, hy13, hy14, hy15⟩ := froz16 hg5
  go_upto_region 15 with fail
  go_region
  go_wp2
  exact bodyPost_ret (v := .tuple #[.string ⟨#[33, 33, 115, 116, 114]⟩, .agg (vCells 5 false 0 0 0 s 0 0 0 0 0 0 0 0), .bool true]) (results_x28x Tryz.results6 _ _ _ _ _ _ rfl (hg_drewN (n := 1) (put16_fin hG2 (Nat.le_refl _) 5 false 0 0 0 s 0 0 0 0 0 0 0 0).1) rfl) rfl
   (resPost_some (below_drewN (put16_fin hG2 (Nat.le_refl _) 5 false 0 0 0 s 0 0 0 0 0 0 0 0).2 1) T.out rfl (VIs.txt s l HL.out))
 have e1 : (ts.toList == [33, 33, 115, 116, 114]) = false := by rw [HS.out]; exact beq_false_of_ne hstr
 have e2 : (ts.toList != [33, 33, 115, 116, 114]) = true := by rw [bne, e1]; rfl
 go_wp2_with fail
 refine (ylPlain_of HP ts s t l _ (HG.below hG2.2) HSH.out HL.out hs).mono ?_
 rintro e W4 ⟨hb, sf, v, hsf, hv, rfl⟩
 have hG3 := hG2.step hb
 have hg8b := hg_below hb (lt_of_heap hg8) hg8
 clear hb hG2 hg8
 generalize hfv : plainOf (decide (t = [] ∨ t = tTime)) l = fv at *
 obtain ⟨f, pv⟩ := fv
 have HFV := Lib.hid hfv
 clear hfv
 obtain ⟨k, b, i, u, x, y, a0, a1, a2, a3, a4, a5, a6, a7, rfl⟩ := hv.agg
 have HV := Lib.hid hv
 have HSF := Lib.hid hsf
 clear hv hsf
 go_upto_region 14 with (refine store28 rfl _ _ rfl _ _ rfl rfl (by rfl) (by rfl) 28 _ hg8b (by rfl) ?_)
 have hg8 := row28_set _ _ _ (vCells k b i u x y a0 a1 a2 a3 a4 a5 a6 a7) hg8b
 have hG4 : G5 w (W4.setRow g8 (vCells k b i u x y a0 a1 a2 a3 a4 a5 a6 a7)) := ⟨hg_setRow hG3.1 (Nat.ne_of_lt hne), below_setRow hG3.2 (Nat.le_of_lt hne)⟩
 clear hg8b hG3
 generalize hW : World.setRow W4 _ _ = W5 at *
 change World.setRow W4 g8 #[.int .i64 k, .bool b, .int .i64 i, .int .u64 u, .int .u64 x, .string y, .int .i64 a0, .int .i64 a1, .int .i64 a2, .int .i64 a3, .int .i64 a4, .int .i64 a5, .int .i64 a6, .int .i64 a7, .slice none 0 0, .slice none 0 0] = W5 at hW
 try rw [hW]
 clear hW
 simp only [Act.put]
 go_cut [33] (fun v wc => v = .bool (decide (t = [] ∨ t = f)) ∧ W5 = wc)
 case first =>
  have e3 : (ts.toList == sf.toList) = decide (t = f) := by
   rw [HS.out, Lib.toList_data, HSF.out]; by_cases h : t = f
   ·rw [h]; simp
   ·simp [h]
  by_cases h0 : t = []
  ·have e0 : ts.toList.isEmpty = true := by rw [HS.out, h0]; rfl
   go_wp2
   go_meet
   case rel => exact ⟨by simp [h0], rfl⟩
  ·have e0 : ts.toList.isEmpty = false := by rw [HS.out]; cases t with | nil => exact absurd rfl h0 | cons a b => rfl
   by_cases h1 : t = f
   ·have e4 : (ts.toList == sf.toList) = true := by rw [e3]; simpa using h1
    clear e3
    go_wp2
    go_meet
    case rel => exact ⟨by simp [h1], rfl⟩
   ·have e4 : (ts.toList == sf.toList) = false := by rw [e3]; simpa using h1
    clear e3
    go_wp2
    go_meet
    case rel => exact ⟨by simp [h0, h1], rfl⟩
 case rest =>
 obtain ⟨rfl, rfl⟩ := hcut
 by_cases h2 : t = [] ∨ t = f
 ·have T : Hid (underOf t l = some (f, pv)) := Lib.hid (under_yes hcore hstr HFV.out h2)
  have hd : decide (t = [] ∨ t = f) = true := by simpa using h2
  rw [hd]
  have hg5 := hG4.1
  clear hd h2 hcore hstr HFV e1 e2
  obtain ⟨hd0, hd1, hd2, hd3, hd4, hd5, hd6, hd7, hd8, hd9, hd10, hd11, hd12, hd13, hd14, hd15⟩ := cells16 hg8
  obtain ⟨hz0, hz1, hz2, hz3, hz4, hz5, hz6, hz7, hz8, hz9, hz10, hz11, hz12, hz13, hz14, hz15⟩ := cells16 (k := 0) (b := false) (i := 0) (u := 0) (f := 0) (t := ⟨#[]⟩) (a0 := 0) (a1 := 0) (a2 := 0) (a3 := 0) (a4 := 0) (a5 := 0) (a6 := 0) (a7 := 0) hg5
  obtain ⟨hy0, hy1, hy2, hy3, hy4, hy5, hy6, hy7, hy8, hy9, hy10, hy11, hy12, hy13, hy14, hy15⟩ := froz16 hg5
  go_upto_region 15 with fail
  go_region
  go_wp2
  exact bodyPost_ret (v := .tuple #[.string sf, .agg (vCells k b i u x y a0 a1 a2 a3 a4 a5 a6 a7), .bool true]) (results_x28x Tryz.results6 _ _ _ _ _ _ rfl (hg_drewN (n := 1) (put16_fin hG4 (Nat.le_refl _) k b i u x y a0 a1 a2 a3 a4 a5 a6 a7).1) rfl) rfl
   (resPost_some (below_drewN (put16_fin hG4 (Nat.le_refl _) k b i u x y a0 a1 a2 a3 a4 a5 a6 a7).2 1) T.out HSF.out HV.out)
 have hd : decide (t = [] ∨ t = f) = false := by simpa using h2
 rw [hd]
 obtain ⟨hd0, hd1, hd2, hd3, hd4, hd5, hd6, hd7, hd8, hd9, hd10, hd11, hd12, hd13, hd14, hd15⟩ := cells16 hg8
 by_cases h3 : t = tFloat
 ·have e4 : (ts.toList == [33, 33, 102, 108, 111, 97, 116]) = true := by rw [HS.out, h3]; rfl
  rcases HV.out.kind with ⟨rfl, rfl⟩ | ⟨hk, hp⟩
  ·have T : Hid (underOf t l = some (tFloat, .flt (floatOfInt .f64 i))) := Lib.hid (under_int hcore hstr HFV.out h2 h3)
   clear hd h2 hcore hstr HFV e1 e2 h3
   go_wp2_with fail
   refine (floatOf_any _ _).mono ?_
   rintro e W6 ⟨rfl, hb⟩
   have hG5 := hG4.step hb
   clear hb hG4
   go_wp2_with (refine store28 rfl _ _ rfl _ _ rfl rfl (by rfl) (by rfl) 28 _ hG5.1 (by rfl) ?_)
   exact bodyPost_ret (v := .tuple #[.string ⟨#[33, 33, 102, 108, 111, 97, 116]⟩, .agg (vCells 4 false 0 0 (floatOfInt .f64 i) ⟨#[]⟩ 0 0 0 0 0 0 0 0), .bool true]) (results_x28x Tryz.results6 _ _ _ _ _ _ rfl (row28_set _ _ _ _ hG5.1) rfl) rfl
    (resPost_some (below_setRow hG5.2 (Nat.le_refl _)) T.out rfl (VIs.flt _))
  ·have T : Hid (underOf t l = none) := Lib.hid (under_no hcore hstr HFV.out h2 (fun _ => hp))
   have hk2 : (k == 2) = false := by simpa using hk
   clear hd h2 hcore hstr HFV e1 e2 h3 hk
   go_wp2_with (refine store28 rfl _ _ rfl _ _ rfl rfl (by rfl) (by rfl) 28 _ hG4.1 (by rfl) ?_)
   exact bodyPost_ret (v := .tuple #[.string ⟨#[]⟩, .agg z28, .bool false]) (results_x28x Tryz.results6 _ _ _ _ _ _ rfl (row28_set _ _ _ _ hG4.1) rfl) rfl ⟨below_setRow hG4.2 (Nat.le_refl _), .inr ⟨T.out, rfl⟩⟩
 ·have e4 : (ts.toList == [33, 33, 102, 108, 111, 97, 116]) = false := by rw [HS.out]; exact beq_false_of_ne h3
  have T : Hid (underOf t l = none) := Lib.hid (under_no hcore hstr HFV.out h2 (fun h => absurd h h3))
  clear hd h2 hcore hstr HFV e1 e2 h3
  go_wp2_with (refine store28 rfl _ _ rfl _ _ rfl rfl (by rfl) (by rfl) 28 _ hG4.1 (by rfl) ?_)
  exact bodyPost_ret (v := .tuple #[.string ⟨#[]⟩, .agg z28, .bool false]) (results_x28x Tryz.results6 _ _ _ _ _ _ rfl (row28_set _ _ _ _ hG4.1) rfl) rfl ⟨below_setRow hG4.2 (Nat.le_refl _), .inr ⟨T.out, rfl⟩⟩
end Go.Proofs.YtillamhoakohdaaGreatDoor
