/-
  Walks: package yaml's resolve.
-/
import Derived.Test.YtillamhoakohdaaGreatDoorM04
import Derived.Test.YtillamhoakohdaaGreatDoorM06
import Derived.Test.YtillamhoakohdaaGreatDoorM12
import Derived.Test.YtillamhoakohdaaGreatDoorM25
import Derived.Test.YtillamhoakohdaaGreatDoorM28
import Derived.Test.YtillamhoakohdaaGreatDoorM31
set_option linter.unusedVariables false
set_option linter.unusedSimpArgs false
namespace Go.Proofs.YtillamhoakohdaaGreatDoor
open Go.RowKit

set_option maxRecDepth 100000 in
set_option maxHeartbeats 4000000 in
theorem resolve_any (tag s : ByteArray) (t0 l : Bs) (w : World) (hT0 : StrIs tag t0) (hL : StrIs s l) (ht : tag.size ≤ 1000) (hs : s.size ≤ 200) :
  Calls Tryz.prog 19 #[.string tag, .string s] w (RPost (shortP t0) l w) := by
 have hmf : ∀ (fn : Fn) (first cap : Array Value) (w : World), (Instr.makeFunc fn first cap).run Tryz.prog w = .ok (.func fn first cap) w := fun _ _ _ _ => rfl
 have HL := Lib.hid hL
 have HS := Lib.hid hs
 clear hL hs
 obtain ⟨t, hteq⟩ : ∃ t, shortP t0 = t := ⟨_, rfl⟩
 have HTQ := Lib.hid hteq
 rw [hteq]
 clear hteq
 go_enter_defers Tryz.func19, Tryz.ntmps19
 go_wp2_with fail
 refine (shortTag_any _ _ _ hT0 ht).mono ?_
 rintro e w' ⟨rfl, T, hT, rfl⟩
 rw [HTQ.out] at hT
 have HT := Lib.hid hT
 clear hT0 ht hT
 go_wp2_with fail
 refine (resolvableTag_any _ _ _ HT.out).mono ?_
 rintro e w' ⟨rfl, rfl⟩
 by_cases hr : Resolvable t
 case neg =>
  have hd : decide (t = [] ∨ t = tStr ∨ t = tBool ∨ t = tInt ∨ t = tFloat ∨ t = tNull ∨ t = tTime) = false := by simpa [Resolvable] using hr
  rw [hd]
  have HR := Lib.hid hr
  clear hr hd
  go_wp2_with fail
  exact leave19 rfl rfl (Vars.begin w T T _) HT.out (.any (.txt s l HL.out)) HR.out
 have hd : decide (t = [] ∨ t = tStr ∨ t = tBool ∨ t = tInt ∨ t = tFloat ∨ t = tNull ∨ t = tTime) = true := by simpa [Resolvable] using hr
 rw [hd]
 have HR := Lib.hid hr
 clear hr hd
 go_upto_region 5 with fail
 have HV := Lib.hid (Vars.begin w T { data := #[] } .nilIface)
 generalize World.alloc (World.alloc (World.alloc w (.cells #[.string T] 9)) (.cells #[.string { data := #[] }] 9)) (.cells #[.nilIface] 20) = W at *
 obtain ⟨c2, c4, c5, f4, f5⟩ := HV.out.cells
 have hTl : T.toList = t := by rw [Lib.toList_data]; exact HT.out
 have HTL := Lib.hid hTl
 clear hTl
 have hsl : s.toList = l := by rw [Lib.toList_data]; exact HL.out
 have HSL := Lib.hid hsl
 clear hsl
 by_cases hts : t = tStr
 ·have et : (T.toList == [33, 33, 115, 116, 114]) = true := by rw [HTL.out, hts]; rfl
  have HF := Lib.hid (Found.text HL.out)
  have HU : Hid (underOf t l = answer t (tStr, .txt l)) := Lib.hid (by rw [hts]; exact undr_str l)
  clear hts
  cases l with
  | nil =>
   have e0 : s.toList.isEmpty = true := by rw [HSL.out]; rfl
   go_wp2_with fail
   exact door19 rfl rfl (HV.out.put _ _) HT.out HF.out HR.out HU.out
  | cons c r =>
   have e0 : s.toList.isEmpty = false := by rw [HSL.out]; rfl
   have hpos : 0 < s.size := by rw [HL.out.size]; simp
   have h0i : (0 : Int) < (s.size : Int) := by omega
   go_wp2_with fail
   refine (resolveTable_any s[0] _).mono ?_
   rintro e w' ⟨rfl, rfl⟩
   by_cases hh : hintOf s[0] = 0
   ·rw [hh]
    go_wp2_with fail
    exact door19 rfl rfl (HV.out.put _ _) HT.out HF.out HR.out HU.out
   ·have e1 : (hintOf s[0] == 0) = false := by simpa using hh
    go_wp2_with fail
    exact door19 rfl rfl (HV.out.put _ _) HT.out HF.out HR.out HU.out
 have et : (T.toList == [33, 33, 115, 116, 114]) = false := by rw [HTL.out]; simpa [tStr] using hts
 have eb : (T.toList == [33, 33, 98, 105, 110, 97, 114, 121]) = false := by rw [HTL.out]; rcases HR.out with rfl | rfl | rfl | rfl | rfl | rfl | rfl <;> rfl
 have HUP : Hid (∀ f, plainOf (decide (t = [] ∨ t = tTime)) l = f → underOf t l = answer t f) := Lib.hid (by rintro f rfl; exact under_plain HR.out hts)
 clear hts
 cases hl : l with
 | nil =>
  subst hl
  have e0 : s.toList.isEmpty = true := by rw [HSL.out]; rfl
  go_wp2_with fail
  refine (resolveMap_any s [] _ HL.out (by decide)).mono ?_
  rintro e w' ⟨hB, h⟩
  obtain ⟨tg, p, S, v, h1, h2, h3, rfl⟩ | ⟨h1, rfl⟩ := h
  case inr => cases h1
  have HF : Hid (Found (tg, p) S v) := Lib.hid (Found.word h1 h2 h3)
  have HU := Lib.hid (HUP.out _ (pln_word h1))
  have HO : Hid ((#[v, .string S] : Array Value).toList.all (·.oneCell') = true) := Lib.hid (by cases h3 <;> rfl)
  have H3 := Lib.hid h3
  have hlt7 := lt_of_heap (HV.out.step hB).2.2.2
  have d1 : ¬ w'.heap.size = w.heap.size + 1 := by omega
  have d2 : ¬ w'.heap.size = w.heap.size + 1 + 1 := by omega
  have d3 : ¬ w.heap.size + 1 = w'.heap.size := by omega
  have d4 : ¬ w.heap.size + 1 + 1 = w'.heap.size := by omega
  clear hlt7
  have HV2 := Lib.hid ((HV.out.step hB).step ((Below.refl w'.heap.size w').alloc (Nat.le_refl _) (.cells #[v, .string S] 90)))
  have HG := Lib.hid (heap_alloc_new w' (.cells #[v, .string S] 90))
  clear hB h1 h2 h3 HV HUP c2 c4 c5 f4 f5
  go_upto_region 10 with (refine store90 rfl (.tmp 7) (.tmp 56) rfl _ #[v, .string S] rfl rfl rfl HO.out 90 _ (heap_alloc_new _ _) rfl ?_; rw [World.setRow_alloc_new])
  generalize w'.heap.size = n7 at *
  generalize World.alloc w' (.cells #[v, .string S] 90) = W3 at *
  obtain ⟨c2, c4, c5, f4, f5⟩ := HV2.out.cells
  have c70 := cellv HG.out 0 _ rfl
  have c71 := cellv HG.out 1 _ rfl
  go_wp2_with fail
  have h3 := H3.out
  clear H3 HO
  cases h3
  all_goals
   go_region
   go_wp2_with fail
   exact door19 rfl rfl (HV2.out.put _ _).drew HT.out HF.out HR.out HU.out
 | cons c r =>
  have HLC := Lib.hid hl
  have hpos : 0 < s.size := by rw [HL.out.size, hl]; simp
  have h0i : (0 : Int) < (s.size : Int) := by omega
  have hsc : s[0] = c := by have := HL.out.get 0 hpos; rw [hl] at this; simpa using this.symm
  have HSC := Lib.hid hsc
  have e0 : s.toList.isEmpty = false := by rw [HSL.out, hl]; rfl
  clear hl hsc
  go_wp2_with fail
  refine (resolveTable_any s[0] _).mono ?_
  rintro e w' ⟨rfl, rfl⟩
  rw [HSC.out]
  have HK := Lib.hid (hint_kind c)
  have HWH0 : Hid (hintOf c = 0 → wordOf (c :: r) = none) := Lib.hid word_hint
  have HMM : Hid (hintOf c ≠ 0 → l ≠ [60, 60]) := Lib.hid (by
   intro h1 h2
   rw [HLC.out] at h2
   cases h2
   exact h1 (by decide))
  generalize hintOf c = hv at *
  by_cases hh : hv = 0
  ·have HWH := Lib.hid (HWH0.out hh)
   subst hh
   have HF := Lib.hid (Found.text HL.out)
   have HU : Hid (underOf t l = answer t (tStr, .txt l)) := Lib.hid (HUP.out _ (by
    rcases HK.out with h | h | h | h
    ·rw [HLC.out]; exact pln_text HWH.out h.2
    ·omega
    ·omega
    ·omega))
   go_wp2_with fail
   exact door19 rfl rfl (HV.out.put _ _) HT.out HF.out HR.out HU.out
  have hvz : (hv == 0) = false := by simpa using hh
  have hmm := HMM.out hh
  go_wp2_with fail
  refine (resolveMap_any s l _ HL.out hmm).mono ?_
  rintro e w' ⟨hB, h⟩
  obtain ⟨tg, p, S, v, h1, h2, h3, rfl⟩ | ⟨h1, rfl⟩ := h
  ·have HF : Hid (Found (tg, p) S v) := Lib.hid (Found.word h1 h2 h3)
   have HU := Lib.hid (HUP.out _ (pln_word h1))
   have HO : Hid ((#[v, .string S] : Array Value).toList.all (·.oneCell') = true) := Lib.hid (by cases h3 <;> rfl)
   have H3 := Lib.hid h3
   have hlt7 := lt_of_heap (HV.out.step hB).2.2.2
   have d1 : ¬ w'.heap.size = w.heap.size + 1 := by omega
   have d2 : ¬ w'.heap.size = w.heap.size + 1 + 1 := by omega
   have d3 : ¬ w.heap.size + 1 = w'.heap.size := by omega
   have d4 : ¬ w.heap.size + 1 + 1 = w'.heap.size := by omega
   clear hlt7
   have HV2 := Lib.hid ((HV.out.step hB).step ((Below.refl w'.heap.size w').alloc (Nat.le_refl _) (.cells #[v, .string S] 90)))
   have HG := Lib.hid (heap_alloc_new w' (.cells #[v, .string S] 90))
   clear hB h1 h2 h3 HV HUP c2 c4 c5 f4 f5
   go_upto_region 10 with (refine store90 rfl (.tmp 7) (.tmp 56) rfl _ #[v, .string S] rfl rfl rfl HO.out 90 _ (heap_alloc_new _ _) rfl ?_; rw [World.setRow_alloc_new])
   generalize w'.heap.size = n7 at *
   generalize World.alloc w' (.cells #[v, .string S] 90) = W3 at *
   obtain ⟨c2, c4, c5, f4, f5⟩ := HV2.out.cells
   have c70 := cellv HG.out 0 _ rfl
   have c71 := cellv HG.out 1 _ rfl
   go_wp2_with fail
   have h3 := H3.out
   clear H3 HO
   cases h3
   all_goals
    go_region
    go_wp2_with fail
    exact door19 rfl rfl (HV2.out.put _ _).drew HT.out HF.out HR.out HU.out
  have HV2 := Lib.hid ((HV.out.step hB).step ((Below.refl w'.heap.size w').alloc (Nat.le_refl _) (.cells #[.nilIface, .string ⟨#[]⟩] 90)))
  have HW := Lib.hid h1
  clear hB h1 HV c2 c4 c5 f4 f5
  go_upto_region 10 with (refine store90 rfl (.tmp 7) (.tmp 56) rfl _ #[.nilIface, .string ⟨#[]⟩] rfl rfl rfl rfl 90 _ (heap_alloc_new _ _) rfl ?_; rw [World.setRow_alloc_new])
  generalize w'.heap.size = n7 at *
  generalize World.alloc w' (.cells #[.nilIface, .string ⟨#[]⟩] 90) = W3 at *
  obtain ⟨c2, c4, c5, f4, f5⟩ := HV2.out.cells
  by_cases hMd : hv = 77 ∨ hv = 46
  ·by_cases hM : hv = 77
   ·subst hM
    have HF := Lib.hid (Found.text HL.out)
    have HU : Hid (underOf t l = answer t (tStr, .txt l)) := Lib.hid (HUP.out _ (by
     rcases HK.out with h | h | h | h
     ·omega
     ·rw [HLC.out]; exact pln_text (by rw [← HLC.out]; exact HW.out) h.2
     ·omega
     ·omega))
    go_wp2_with fail
    exact door19 rfl rfl (HV2.out.put _ _) HT.out HF.out HR.out HU.out
   have hd : hv = 46 := by omega
   subst hd
   have hc46 : c = 46 := by
    rcases HK.out with h | h | h | h
    ·omega
    ·omega
    ·exact h.2
    ·omega
   have HLD : Hid (lead l) := Lib.hid (.inl (by rw [HLC.out, hc46]; rfl))
   have HPL : Hid (plainOf (decide (t = [] ∨ t = tTime)) l = (match pf l with | some n => (tFloat, .flt n) | none => (tStr, .txt l))) := Lib.hid (by
    have hw := HW.out
    rw [HLC.out, hc46] at hw ⊢
    exact pln_dot hw)
   clear hc46
   go_wp2_with fail
   refine (lightPF s l _ HL.out HS.out HLD.out).mono ?_
   rintro e w9 ⟨hB, n, err, rfl, h⟩
   have HV6 := Lib.hid (HV2.out.step hB)
   clear HV2 hB c2 c4 c5 f4 f5
   obtain ⟨c2, c4, c5, f4, f5⟩ := HV6.out.cells
   obtain ⟨rfl, hp⟩ | ⟨⟨et3, ev3, rfl⟩, hp⟩ := h
   ·have HF := Lib.hid (Found.flt n)
    have HU2 := Lib.hid (HUP.out _ (by rw [HPL.out, hp HLD.out]))
    clear hp
    go_wp2_with fail
    exact door19 rfl rfl (HV6.out.put _ _) HT.out HF.out HR.out HU2.out
   ·have HF := Lib.hid (Found.text HL.out)
    have HU2 := Lib.hid (HUP.out _ (by rw [HPL.out, hp HLD.out]))
    clear hp
    go_wp2_with fail
    exact door19 rfl rfl (HV6.out.put _ _) HT.out HF.out HR.out HU2.out
  have hv3 : hv = 68 ∨ hv = 83 := by rcases HK.out with h | h | h | h <;> omega
  have j1 : (hv == 77) = false := by simp; omega
  have j2 : (hv == 46) = false := by simp; omega
  have HUN : Hid (∀ f, (match (if (decide (t = [] ∨ t = tTime)) = true then timeOf l else none) with | some a => (tTime, .tim a) | none => numOf l) = f → underOf t l = answer t f) := Lib.hid (by
   intro f hf
   refine HUP.out f ?_
   rw [← hf]
   have hw := HW.out
   rw [HLC.out] at hw ⊢
   rcases HK.out with h | h | h | h
   ·omega
   ·omega
   ·omega
   ·exact pln_num hw h.2.1 h.2.2)
  go_upto_if 78 with fail
  go_cut [78] from 78 to 80 (fun y wc => y = .bool true ∧ W3 = wc)
  case first =>
   by_cases h68 : hv = 68
   ·have j3 : (hv == 68) = true := by simp; omega
    go_wp2_with fail
    go_meet
    exact ⟨by rw [j3], rfl⟩
   ·have j3 : (hv == 68) = false := by simp; omega
    have j4 : (hv == 83) = true := by simp; omega
    go_wp2_with fail
    go_meet
    exact ⟨rfl, rfl⟩
  case rest =>
  obtain ⟨rfl, rfl⟩ := hcut
  go_step
  refine wp_cond_true rfl ?_
  go_step
  go_cut [11, 12] from 81 to 94 (fun _ _ wc => Hid (Vars w.heap.size w wc T ⟨#[]⟩ .nilIface) ∧ Hid (underOf t l = answer t (numOf l)))
  case first =>
   by_cases htm : t = [] ∨ t = tTime
   ·have CP : Hid (∀ w, Calls Tryz.prog 38 #[.string s] w (ParsePost (timeOf l) w)) := Lib.hid (fun w => parseTimestamp_any s l w HL.out (Nat.le_trans HS.out (by decide)))
    have htd : (if (decide (t = [] ∨ t = tTime)) = true then timeOf l else none) = timeOf l := by rw [if_pos (by simpa using htm)]
    rw [htd] at HUN
    clear htd
    have go1 : (T.toList.isEmpty = true) ∨ (T.toList.isEmpty = false ∧ (T.toList == [33, 33, 116, 105, 109, 101, 115, 116, 97, 109, 112]) = true) := by
     rw [HTL.out]
     rcases htm with rfl | rfl
     ·exact .inl rfl
     ·exact .inr ⟨rfl, rfl⟩
    clear htm
    rcases go1 with b1 | ⟨b1, b2⟩
    all_goals
     go_wp2_with fail
     refine (CP.out _).mono ?_
     rintro e w' ⟨hB, a0, a1, a2, a3, a4, a5, a6, a7, rfl, hy⟩
     have HV3 := Lib.hid ((HV2.out.step hB).step ((Below.refl w'.heap.size w').alloc (Nat.le_refl _) (.cells (tCells a0 a1 a2 a3 a4 a5 a6 a7) 61)))
     have HV3b := HV3.out.put ⟨#[33, 33, 116, 105, 109, 101, 115, 116, 97, 109, 112]⟩ (.iface 61 (.agg (tCells a0 a1 a2 a3 a4 a5 a6 a7)))
     have HG := Lib.hid (heap_alloc_new w' (.cells (tCells a0 a1 a2 a3 a4 a5 a6 a7) 61))
     have hlt7 := lt_of_heap (HV2.out.step hB).2.2.2
     have d1 : ¬ w'.heap.size = w.heap.size + 1 := by omega
     have d2 : ¬ w'.heap.size = w.heap.size + 1 + 1 := by omega
     have d3 : ¬ w.heap.size + 1 = w'.heap.size := by omega
     have d4 : ¬ w.heap.size + 1 + 1 = w'.heap.size := by omega
     clear hlt7 hB c2 c4 c5 f4 f5
     cases hto : timeOf l with
     | none =>
      have HU : Hid (underOf t l = answer t (numOf l)) := Lib.hid (HUN.out _ (by rw [hto]))
      clear hy hto
      go_wp2_with (refine store61 rfl (.tmp 11) (.tmp 90) rfl _ (tCells a0 a1 a2 a3 a4 a5 a6 a7) rfl rfl rfl rfl 61 _ (heap_alloc_new _ _) rfl ?_; rw [World.setRow_alloc_new])
      go_meet
      exact ⟨HV3, HU⟩
     | some y =>
      have hy2 := hy y hto
      subst hy2
      have HU : Hid (underOf t l = answer t (tTime, .tim [a0, a1, a2, a3, a4, a5, a6, a7])) := Lib.hid (HUN.out _ (by rw [hto]))
      have HF := Lib.hid (Found.tim a0 a1 a2 a3 a4 a5 a6 a7)
      clear hy hto
      go_upto_region 23 with (refine store61 rfl (.tmp 11) (.tmp 90) rfl _ (tCells a0 a1 a2 a3 a4 a5 a6 a7) rfl rfl rfl rfl 61 _ (heap_alloc_new _ _) rfl ?_; rw [World.setRow_alloc_new])
      generalize w'.heap.size = n11 at *
      generalize World.alloc w' (.cells (tCells a0 a1 a2 a3 a4 a5 a6 a7) 61) = W4 at *
      obtain ⟨c2, c4, c5, f4, f5⟩ := HV3.out.cells
      have k0 := cellv HG.out 0 _ rfl
      have k1 := cellv HG.out 1 _ rfl
      have k2 := cellv HG.out 2 _ rfl
      have k3 := cellv HG.out 3 _ rfl
      have k4 := cellv HG.out 4 _ rfl
      have k5 := cellv HG.out 5 _ rfl
      have k6 := cellv HG.out 6 _ rfl
      have k7 := cellv HG.out 7 _ rfl
      go_wp2_with fail
      go_region
      go_wp2_with fail
      exact door19 rfl rfl (HV3.out.put _ _).drew HT.out HF.out HR.out HU.out
   ·have hn1 : t ≠ [] := fun h => htm (.inl h)
    have hn2 : t ≠ tTime := fun h => htm (.inr h)
    have b1 : T.toList.isEmpty = false := by
     rw [HTL.out]
     cases ht : t with
     | nil => exact absurd ht hn1
     | cons a b => rfl
    have b2 : (T.toList == [33, 33, 116, 105, 109, 101, 115, 116, 97, 109, 112]) = false := by rw [HTL.out]; simpa [tTime] using hn2
    have HU : Hid (underOf t l = answer t (numOf l)) := Lib.hid (HUN.out _ (by rw [if_neg (by simpa using htm)]))
    have HV3 := HV2
    clear htm hn1 hn2
    go_wp2_with fail
    go_meet
    exact ⟨HV3, HU⟩
  case rest =>
  obtain ⟨HV4, HU⟩ := hcut
  clear HV2 HUN HUP c2 c4 c5 f4 f5 HK hv3 hMd hvz hh j1 j2
  have HUC : Hid (∀ f, numOf l = f → underOf t l = answer t f) := Lib.hid (by rintro f rfl; exact HU.out)
  clear HU
  go_wp2_with fail
  refine (zzWithout_any s l _ HL.out (Nat.le_trans HS.out (by decide))).mono ?_
  rintro e w' ⟨hB, br, hbr, rfl⟩
  have HV5 := Lib.hid (HV4.out.step hB)
  have HBR := Lib.hid hbr
  have HBS : Hid (br.size ≤ 200) := Lib.hid (by rw [hbr.size]; exact Nat.le_trans (List.length_filter_le _ _) (by rw [← HL.out.size]; exact HS.out))
  have H95 : Hid (∀ c ∈ bare l, c ≠ 95) := Lib.hid (fun c hc => by simpa using (List.mem_filter.1 hc).2)
  clear hB hbr HV4
  go_wp2_with fail
  refine (ParseInt_any br (bare l) 0 (.inl rfl) _ HBR.out (Nat.le_trans HBS.out (by decide)) H95.out).mono ?_
  rintro e w6 ⟨hB, h⟩
  have HV6 := Lib.hid (HV5.out.step hB)
  clear HV5 hB
  have HV5 := HV6
  clear HV6
  obtain ⟨c2, c4, c5, f4, f5⟩ := HV5.out.cells
  obtain ⟨n, hi, _, _, rfl⟩ | ⟨hi, n, et1, ev1, rfl⟩ := h
  ·have HF := Lib.hid (Found.int n)
   have HU2 := Lib.hid (HUC.out _ (num_int hi))
   clear hi
   go_wp2_with fail
   exact door19 rfl rfl (HV5.out.put _ _) HT.out HF.out HR.out HU2.out
  have HI := Lib.hid hi
  clear hi c2 c4 c5 f4 f5
  go_wp2_with fail
  refine (ParseUint_any br (bare l) 0 (.inl rfl) _ HBR.out (Nat.le_trans HBS.out (by decide)) H95.out).mono ?_
  rintro e w7 ⟨hB, h⟩
  have HV6 := Lib.hid (HV5.out.step hB)
  clear HV5 hB
  have HV5 := HV6
  clear HV6
  obtain ⟨c2, c4, c5, f4, f5⟩ := HV5.out.cells
  obtain ⟨n, hi, _, _, rfl⟩ | ⟨hi, n, et2, ev2, rfl⟩ := h
  ·have HF := Lib.hid (Found.uint n)
   have HU2 := Lib.hid (HUC.out _ (num_uint HI.out hi))
   clear hi
   go_wp2_with fail
   exact door19 rfl rfl (HV5.out.put _ _) HT.out HF.out HR.out HU2.out
  have HNP := Lib.hid (numP_no HI.out hi)
  clear hi HI c2 c4 c5 f4 f5
  go_upto_if 117 with fail
  refine wp_cond_false rfl ?_
  go_step
  go_step
  go_step
  go_step
  go_cut [17, 18] from 120 to 130 (fun _ _ wc => Hid (Vars w.heap.size w wc T ⟨#[]⟩ .nilIface) ∧ Hid (real (bare l) = true → pf (bare l) = none))
  case first =>
   go_wp2_with fail
   refine (yamlStyleFloat_any br (bare l) _ HBR.out (Nat.le_trans HBS.out (by decide))).mono ?_
   rintro e w8 ⟨rfl, rfl⟩
   by_cases hre : real (bare l) = true
   ·rw [hre]
    have HRE := Lib.hid hre
    clear hre
    go_wp2_with fail
    refine (lightPF br (bare l) _ HBR.out HBS.out (.inr HRE.out)).mono ?_
    rintro e w9 ⟨hB, n, err, rfl, h⟩
    have HV6 := Lib.hid (HV5.out.step hB)
    clear HV5 hB
    obtain ⟨c2, c4, c5, f4, f5⟩ := HV6.out.cells
    obtain ⟨rfl, hp⟩ | ⟨⟨et3, ev3, rfl⟩, hp⟩ := h
    ·have HF := Lib.hid (Found.flt n)
     have HU2 := Lib.hid (HUC.out _ (num_flt HNP.out HRE.out (hp (.inr HRE.out))))
     clear hp
     go_wp2_with fail
     exact door19 rfl rfl (HV6.out.put _ _) HT.out HF.out HR.out HU2.out
    ·have HPF : Hid (real (bare l) = true → pf (bare l) = none) := Lib.hid (fun h => hp (.inr h))
     clear hp c2 c4 c5 f4 f5
     go_wp2_with fail
     go_meet
     exact ⟨HV6, HPF⟩
   ·have HPF : Hid (real (bare l) = true → pf (bare l) = none) := Lib.hid (fun h => absurd h hre)
    have hre2 : real (bare l) = false := by simpa using hre
    rw [hre2]
    clear hre hre2
    have HV6 := HV5
    go_wp2_with fail
    go_meet
    exact ⟨HV6, HPF⟩
  case rest =>
  obtain ⟨HV6, HPF⟩ := hcut
  clear HV5
  have HTXT : Hid (∀ (h : lastP (bare l) = none), underOf t l = answer t (tStr, .txt l)) := Lib.hid (fun h => HUC.out _ (num_text HNP.out HPF.out h))
  have HLAST : Hid (∀ v, lastP (bare l) = some v → underOf t l = answer t (tInt, v)) := Lib.hid (fun v h => HUC.out _ (num_last HNP.out h))
  have HF := Lib.hid (Found.text HL.out)
  have HW8 := Lib.hid (last_ways (bare l))
  clear HUC HNP HPF
  generalize bare l = b at *
  have hlast := HW8.out
  clear HW8
  cases hlast with
  | b r =>
   have h2i : (2 : Int) ≤ (br.size : Int) := by have := HBR.out.size; simp at this; omega
   have HD : Hid (StrIs (br.extract 2 br.size) r) := Lib.hid (HBR.out.drop 2)
   have HDS : Hid ((br.extract 2 br.size).size ≤ 1000) := Lib.hid (by have := HBS.out; rw [ByteArray.size_extract]; omega)
   have H95r : Hid (∀ c ∈ r, c ≠ 95) := Lib.hid (fun c hc => H95.out c (List.mem_cons_of_mem _ (List.mem_cons_of_mem _ hc)))
   have HLP : Hid (lastP (48 :: 98 :: r) = numP 2 r) := Lib.hid (by rw [lastP_cc]; simp)
   clear H95
   go_wp2_with fail
   refine (hasPrefix_any br ⟨#[48, 98]⟩ _ [48, 98] _ HBR.out rfl (Nat.le_trans HBS.out (by decide))).mono ?_
   rintro e w' ⟨rfl, rfl⟩
   rw [show decide (List.take ([48, 98] : Bs).length (48 :: 98 :: r) = [48, 98]) = true from by simp]
   go_wp2_with fail
   refine (ParseInt_any _ r 2 (by decide) _ HD.out HDS.out H95r.out).mono ?_
   rintro e w6 ⟨hB, h⟩
   have HV7 := Lib.hid (HV6.out.step hB)
   clear HV6 hB
   have HV6 := HV7
   clear HV7
   obtain ⟨n, hi, _, _, rfl⟩ | ⟨hi, n, et4, ev4, rfl⟩ := h
   ·have HF2 := Lib.hid (Found.int n)
    have HU2 := Lib.hid (HLAST.out _ (HLP.out.trans (show numP 2 r = some (.int n) by unfold numP; rw [hi])))
    clear hi
    obtain ⟨c2, c4, c5, f4, f5⟩ := HV6.out.cells
    go_wp2_with fail
    exact door19 rfl rfl (HV6.out.put _ _) HT.out HF2.out HR.out HU2.out
   have HI := Lib.hid hi
   clear hi
   go_wp2_with fail
   refine (ParseUint_any _ r 2 (by decide) _ HD.out HDS.out H95r.out).mono ?_
   rintro e w6 ⟨hB, h⟩
   have HV7 := Lib.hid (HV6.out.step hB)
   clear HV6 hB
   have HV6 := HV7
   clear HV7
   obtain ⟨n, hi, _, _, rfl⟩ | ⟨hi, n, et5, ev5, rfl⟩ := h
   ·have HF2 := Lib.hid (Found.uint n)
    have HU2 := Lib.hid (HLAST.out _ (HLP.out.trans (show numP 2 r = some (.uint n) by unfold numP; rw [HI.out, hi]; rfl)))
    clear hi
    obtain ⟨c2, c4, c5, f4, f5⟩ := HV6.out.cells
    go_wp2_with fail
    exact door19 rfl rfl (HV6.out.put _ _) HT.out HF2.out HR.out HU2.out
   have HU2 := Lib.hid (HTXT.out (HLP.out.trans (show numP 2 r = none by unfold numP; rw [HI.out, hi]; rfl)))
   clear hi
   go_wp2_with fail
   refine (hasPrefix_any br ⟨#[48, 111]⟩ _ [48, 111] _ HBR.out rfl (Nat.le_trans HBS.out (by decide))).mono ?_
   rintro e w' ⟨rfl, rfl⟩
   rw [show decide (List.take ([48, 111] : Bs).length (48 :: 98 :: r) = [48, 111]) = false from by simp]
   go_wp2_with fail
   refine (hasPrefix_any br ⟨#[45, 48, 111]⟩ _ [45, 48, 111] _ HBR.out rfl (Nat.le_trans HBS.out (by decide))).mono ?_
   rintro e w' ⟨rfl, rfl⟩
   rw [show decide (List.take ([45, 48, 111] : Bs).length (48 :: 98 :: r) = [45, 48, 111]) = false from by simp]
   obtain ⟨c2, c4, c5, f4, f5⟩ := HV6.out.cells
   go_wp2_with fail
   exact door19 rfl rfl (HV6.out.put _ _) HT.out HF.out HR.out HU2.out
  | o r =>
   have h2i : (2 : Int) ≤ (br.size : Int) := by have := HBR.out.size; simp at this; omega
   have HD : Hid (StrIs (br.extract 2 br.size) r) := Lib.hid (HBR.out.drop 2)
   have HDS : Hid ((br.extract 2 br.size).size ≤ 1000) := Lib.hid (by have := HBS.out; rw [ByteArray.size_extract]; omega)
   have H95r : Hid (∀ c ∈ r, c ≠ 95) := Lib.hid (fun c hc => H95.out c (List.mem_cons_of_mem _ (List.mem_cons_of_mem _ hc)))
   have HLP : Hid (lastP (48 :: 111 :: r) = numP 8 r) := Lib.hid (by rw [lastP_cc]; simp)
   clear H95
   go_wp2_with fail
   refine (hasPrefix_any br ⟨#[48, 98]⟩ _ [48, 98] _ HBR.out rfl (Nat.le_trans HBS.out (by decide))).mono ?_
   rintro e w' ⟨rfl, rfl⟩
   rw [show decide (List.take ([48, 98] : Bs).length (48 :: 111 :: r) = [48, 98]) = false from by simp]
   go_wp2_with fail
   refine (hasPrefix_any br ⟨#[45, 48, 98]⟩ _ [45, 48, 98] _ HBR.out rfl (Nat.le_trans HBS.out (by decide))).mono ?_
   rintro e w' ⟨rfl, rfl⟩
   rw [show decide (List.take ([45, 48, 98] : Bs).length (48 :: 111 :: r) = [45, 48, 98]) = false from by simp]
   go_wp2_with fail
   refine (hasPrefix_any br ⟨#[48, 111]⟩ _ [48, 111] _ HBR.out rfl (Nat.le_trans HBS.out (by decide))).mono ?_
   rintro e w' ⟨rfl, rfl⟩
   rw [show decide (List.take ([48, 111] : Bs).length (48 :: 111 :: r) = [48, 111]) = true from by simp]
   go_wp2_with fail
   refine (ParseInt_any _ r 8 (by decide) _ HD.out HDS.out H95r.out).mono ?_
   rintro e w6 ⟨hB, h⟩
   have HV7 := Lib.hid (HV6.out.step hB)
   clear HV6 hB
   have HV6 := HV7
   clear HV7
   obtain ⟨n, hi, _, _, rfl⟩ | ⟨hi, n, et4, ev4, rfl⟩ := h
   ·have HF2 := Lib.hid (Found.int n)
    have HU2 := Lib.hid (HLAST.out _ (HLP.out.trans (show numP 8 r = some (.int n) by unfold numP; rw [hi])))
    clear hi
    obtain ⟨c2, c4, c5, f4, f5⟩ := HV6.out.cells
    go_wp2_with fail
    exact door19 rfl rfl (HV6.out.put _ _) HT.out HF2.out HR.out HU2.out
   have HI := Lib.hid hi
   clear hi
   go_wp2_with fail
   refine (ParseUint_any _ r 8 (by decide) _ HD.out HDS.out H95r.out).mono ?_
   rintro e w6 ⟨hB, h⟩
   have HV7 := Lib.hid (HV6.out.step hB)
   clear HV6 hB
   have HV6 := HV7
   clear HV7
   obtain ⟨n, hi, _, _, rfl⟩ | ⟨hi, n, et5, ev5, rfl⟩ := h
   ·have HF2 := Lib.hid (Found.uint n)
    have HU2 := Lib.hid (HLAST.out _ (HLP.out.trans (show numP 8 r = some (.uint n) by unfold numP; rw [HI.out, hi]; rfl)))
    clear hi
    obtain ⟨c2, c4, c5, f4, f5⟩ := HV6.out.cells
    go_wp2_with fail
    exact door19 rfl rfl (HV6.out.put _ _) HT.out HF2.out HR.out HU2.out
   have HU2 := Lib.hid (HTXT.out (HLP.out.trans (show numP 8 r = none by unfold numP; rw [HI.out, hi]; rfl)))
   clear hi
   obtain ⟨c2, c4, c5, f4, f5⟩ := HV6.out.cells
   go_wp2_with fail
   exact door19 rfl rfl (HV6.out.put _ _) HT.out HF.out HR.out HU2.out
  | mb r =>
   have h2i : (3 : Int) ≤ (br.size : Int) := by have := HBR.out.size; simp at this; omega
   have HD : Hid (StrIs (⟨#[45]⟩ ++ br.extract 3 br.size) (45 :: r)) := Lib.hid (StrIs.append (k := [45]) (l := r) rfl (HBR.out.drop 3))
   have HDS : Hid ((⟨#[45]⟩ ++ br.extract 3 br.size : ByteArray).size ≤ 1000) := Lib.hid (by have := HBS.out; rw [ByteArray.size_append, ByteArray.size_extract]; have : (⟨#[45]⟩ : ByteArray).size = 1 := rfl; omega)
   have hbs : br.size ≤ 1000 := Nat.le_trans HBS.out (by decide)
   have H95r : Hid (∀ c ∈ (45 :: r : Bs), c ≠ 95) := Lib.hid (fun c hc => by
    rcases List.mem_cons.1 hc with h | h
    ·rw [h]; decide
    ·exact H95.out c (List.mem_cons_of_mem _ (List.mem_cons_of_mem _ (List.mem_cons_of_mem _ h))))
   have HLP : Hid (lastP (45 :: 48 :: 98 :: r) = (intP 2 (45 :: r)).map .int) := Lib.hid (by rw [lastP_cc]; simp)
   clear H95
   go_wp2_with fail
   refine (hasPrefix_any br ⟨#[48, 98]⟩ _ [48, 98] _ HBR.out rfl (Nat.le_trans HBS.out (by decide))).mono ?_
   rintro e w' ⟨rfl, rfl⟩
   rw [show decide (List.take ([48, 98] : Bs).length (45 :: 48 :: 98 :: r) = [48, 98]) = false from by simp]
   go_wp2_with fail
   refine (hasPrefix_any br ⟨#[45, 48, 98]⟩ _ [45, 48, 98] _ HBR.out rfl (Nat.le_trans HBS.out (by decide))).mono ?_
   rintro e w' ⟨rfl, rfl⟩
   rw [show decide (List.take ([45, 48, 98] : Bs).length (45 :: 48 :: 98 :: r) = [45, 48, 98]) = true from by simp]
   go_wp2_with fail
   refine (ParseInt_any _ (45 :: r) 2 (by decide) _ HD.out HDS.out H95r.out).mono ?_
   rintro e w6 ⟨hB, h⟩
   have HV7 := Lib.hid (HV6.out.step hB)
   clear HV6 hB
   have HV6 := HV7
   clear HV7
   obtain ⟨n, hi, _, _, rfl⟩ | ⟨hi, n, et4, ev4, rfl⟩ := h
   ·have HF2 := Lib.hid (Found.int n)
    have HU2 := Lib.hid (HLAST.out _ (HLP.out.trans (by rw [hi]; rfl)))
    clear hi
    obtain ⟨c2, c4, c5, f4, f5⟩ := HV6.out.cells
    go_wp2_with fail
    exact door19 rfl rfl (HV6.out.put _ _) HT.out HF2.out HR.out HU2.out
   have HU2 := Lib.hid (HTXT.out (HLP.out.trans (by rw [hi]; rfl)))
   clear hi
   go_wp2_with fail
   refine (hasPrefix_any br ⟨#[48, 111]⟩ _ [48, 111] _ HBR.out rfl (Nat.le_trans HBS.out (by decide))).mono ?_
   rintro e w' ⟨rfl, rfl⟩
   rw [show decide (List.take ([48, 111] : Bs).length (45 :: 48 :: 98 :: r) = [48, 111]) = false from by simp]
   go_wp2_with fail
   refine (hasPrefix_any br ⟨#[45, 48, 111]⟩ _ [45, 48, 111] _ HBR.out rfl (Nat.le_trans HBS.out (by decide))).mono ?_
   rintro e w' ⟨rfl, rfl⟩
   rw [show decide (List.take ([45, 48, 111] : Bs).length (45 :: 48 :: 98 :: r) = [45, 48, 111]) = false from by simp]
   obtain ⟨c2, c4, c5, f4, f5⟩ := HV6.out.cells
   go_wp2_with fail
   exact door19 rfl rfl (HV6.out.put _ _) HT.out HF.out HR.out HU2.out
  | mo r =>
   have h2i : (3 : Int) ≤ (br.size : Int) := by have := HBR.out.size; simp at this; omega
   have HD : Hid (StrIs (⟨#[45]⟩ ++ br.extract 3 br.size) (45 :: r)) := Lib.hid (StrIs.append (k := [45]) (l := r) rfl (HBR.out.drop 3))
   have HDS : Hid ((⟨#[45]⟩ ++ br.extract 3 br.size : ByteArray).size ≤ 1000) := Lib.hid (by have := HBS.out; rw [ByteArray.size_append, ByteArray.size_extract]; have : (⟨#[45]⟩ : ByteArray).size = 1 := rfl; omega)
   have hbs : br.size ≤ 1000 := Nat.le_trans HBS.out (by decide)
   have H95r : Hid (∀ c ∈ (45 :: r : Bs), c ≠ 95) := Lib.hid (fun c hc => by
    rcases List.mem_cons.1 hc with h | h
    ·rw [h]; decide
    ·exact H95.out c (List.mem_cons_of_mem _ (List.mem_cons_of_mem _ (List.mem_cons_of_mem _ h))))
   have HLP : Hid (lastP (45 :: 48 :: 111 :: r) = (intP 8 (45 :: r)).map .int) := Lib.hid (by rw [lastP_cc]; simp)
   clear H95
   go_wp2_with fail
   refine (hasPrefix_any br ⟨#[48, 98]⟩ _ [48, 98] _ HBR.out rfl (Nat.le_trans HBS.out (by decide))).mono ?_
   rintro e w' ⟨rfl, rfl⟩
   rw [show decide (List.take ([48, 98] : Bs).length (45 :: 48 :: 111 :: r) = [48, 98]) = false from by simp]
   go_wp2_with fail
   refine (hasPrefix_any br ⟨#[45, 48, 98]⟩ _ [45, 48, 98] _ HBR.out rfl (Nat.le_trans HBS.out (by decide))).mono ?_
   rintro e w' ⟨rfl, rfl⟩
   rw [show decide (List.take ([45, 48, 98] : Bs).length (45 :: 48 :: 111 :: r) = [45, 48, 98]) = false from by simp]
   go_wp2_with fail
   refine (hasPrefix_any br ⟨#[48, 111]⟩ _ [48, 111] _ HBR.out rfl (Nat.le_trans HBS.out (by decide))).mono ?_
   rintro e w' ⟨rfl, rfl⟩
   rw [show decide (List.take ([48, 111] : Bs).length (45 :: 48 :: 111 :: r) = [48, 111]) = false from by simp]
   go_wp2_with fail
   refine (hasPrefix_any br ⟨#[45, 48, 111]⟩ _ [45, 48, 111] _ HBR.out rfl (Nat.le_trans HBS.out (by decide))).mono ?_
   rintro e w' ⟨rfl, rfl⟩
   rw [show decide (List.take ([45, 48, 111] : Bs).length (45 :: 48 :: 111 :: r) = [45, 48, 111]) = true from by simp]
   go_wp2_with fail
   refine (ParseInt_any _ (45 :: r) 8 (by decide) _ HD.out HDS.out H95r.out).mono ?_
   rintro e w6 ⟨hB, h⟩
   have HV7 := Lib.hid (HV6.out.step hB)
   clear HV6 hB
   have HV6 := HV7
   clear HV7
   obtain ⟨n, hi, _, _, rfl⟩ | ⟨hi, n, et4, ev4, rfl⟩ := h
   ·have HF2 := Lib.hid (Found.int n)
    have HU2 := Lib.hid (HLAST.out _ (HLP.out.trans (by rw [hi]; rfl)))
    clear hi
    obtain ⟨c2, c4, c5, f4, f5⟩ := HV6.out.cells
    go_wp2_with fail
    exact door19 rfl rfl (HV6.out.put _ _) HT.out HF2.out HR.out HU2.out
   have HU2 := Lib.hid (HTXT.out (HLP.out.trans (by rw [hi]; rfl)))
   clear hi
   obtain ⟨c2, c4, c5, f4, f5⟩ := HV6.out.cells
   go_wp2_with fail
   exact door19 rfl rfl (HV6.out.put _ _) HT.out HF.out HR.out HU2.out
  | no h1 h2 h3 h4 h =>
   have HU2 := Lib.hid (HTXT.out h)
   have N1 := Lib.hid h1
   have N2 := Lib.hid h2
   have N3 := Lib.hid h3
   have N4 := Lib.hid h4
   clear h1 h2 h3 h4 h
   go_wp2_with fail
   refine (hasPrefix_any br ⟨#[48, 98]⟩ _ [48, 98] _ HBR.out rfl (Nat.le_trans HBS.out (by decide))).mono ?_
   rintro e w' ⟨rfl, rfl⟩
   rw [show decide (List.take ([48, 98] : Bs).length b = [48, 98]) = false from decide_eq_false N1.out]
   go_wp2_with fail
   refine (hasPrefix_any br ⟨#[45, 48, 98]⟩ _ [45, 48, 98] _ HBR.out rfl (Nat.le_trans HBS.out (by decide))).mono ?_
   rintro e w' ⟨rfl, rfl⟩
   rw [show decide (List.take ([45, 48, 98] : Bs).length b = [45, 48, 98]) = false from decide_eq_false N3.out]
   go_wp2_with fail
   refine (hasPrefix_any br ⟨#[48, 111]⟩ _ [48, 111] _ HBR.out rfl (Nat.le_trans HBS.out (by decide))).mono ?_
   rintro e w' ⟨rfl, rfl⟩
   rw [show decide (List.take ([48, 111] : Bs).length b = [48, 111]) = false from decide_eq_false N2.out]
   go_wp2_with fail
   refine (hasPrefix_any br ⟨#[45, 48, 111]⟩ _ [45, 48, 111] _ HBR.out rfl (Nat.le_trans HBS.out (by decide))).mono ?_
   rintro e w' ⟨rfl, rfl⟩
   rw [show decide (List.take ([45, 48, 111] : Bs).length b = [45, 48, 111]) = false from decide_eq_false N4.out]
   obtain ⟨c2, c4, c5, f4, f5⟩ := HV6.out.cells
   go_wp2_with fail
   exact door19 rfl rfl (HV6.out.put _ _) HT.out HF.out HR.out HU2.out
end Go.Proofs.YtillamhoakohdaaGreatDoor
