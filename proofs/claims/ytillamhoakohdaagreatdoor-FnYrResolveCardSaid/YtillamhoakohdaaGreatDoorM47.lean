/-
  Walks: the library's floats from texts: the choice among the roads.
-/
import Derived.Test.YtillamhoakohdaaGreatDoorM41
import Derived.Test.YtillamhoakohdaaGreatDoorM42
import Derived.Test.YtillamhoakohdaaGreatDoorM43
import Derived.Test.YtillamhoakohdaaGreatDoorM45
import Derived.Test.YtillamhoakohdaaGreatDoorM46
set_option linter.unusedVariables false
set_option linter.unusedSimpArgs false
namespace Go.Proofs.YtillamhoakohdaaGreatDoor
open Go.RowKit
attribute [local go_sem] setCell_drewN

def AtLead (l : Bs) (n : Nat) (i : Int) (err : Value) : Prop := lead l → ((i = l.length ∧ err = .nilIface) → pf l = some n) ∧ ((i ≠ l.length ∨ err ≠ .nilIface) → pf l = none)
def AtPost (l : Bs) (w : World) (e : Ending) (w' : World) : Prop := Below w.heap.size w w' ∧ ∃ (n : Nat) (i : Int) (err : Value), e = .returned (.tuple #[.float .f64 n, .int .i64 i, err]) ∧ ErrI err ∧ AtLead l n i err
theorem at_mk {l : Bs} {w w' : World} {n : Nat} {i : Int} {err : Value} (hb : Below w.heap.size w w') (he : ErrI err) (h : AtLead l n i err) : AtPost l w (.returned (.tuple #[.float .f64 n, .int .i64 i, err])) w' := ⟨hb, n, i, err, rfl, he, h⟩
theorem at_ok {l ds r : Bs} {dp : Int} {n i : Nat} {err : Value} (hi : i + r.length = l.length) (h1 : r = [] → readP (sgn l).1 = some (ds, dp) ∧ (NoPre (sgn l).1 → uok 2 (sgn l).1 = true)) (h2 : r ≠ [] → readP (sgn l).1 = none)
  (hat : r = [] → AtIs (sgn l).2.1 ds dp n err) : AtLead l n i err := by
 intro hl
 have hp := (lead_first hl).2.2
 by_cases hr : r = []
 ·obtain ⟨e1, e2⟩ := h1 hr
  obtain ⟨_, _, d, hs, hd⟩ := pf_some (e2 hp) e1
  have hi2 : i = l.length := by rw [hr] at hi; simpa using hi
  rcases hat hr d hs with ⟨a, b⟩ | ⟨a, b⟩
  ·exact ⟨fun _ => hd _ b, fun h => by rcases h with h | h; exact absurd (by omega) h; exact absurd a h⟩
  ·exact ⟨fun h => absurd h.2 a, fun _ => hd _ b⟩
 ·have : 0 < r.length := by
   rcases Nat.eq_zero_or_pos r.length with h | h
   ·exact absurd (List.eq_nil_of_length_eq_zero h) hr
   ·exact h
  exact ⟨fun h => by have := h.1; omega, fun _ => pf_none (h2 hr)⟩
theorem at_no {l : Bs} {n : Nat} {i : Int} {err : Value} (he : err ≠ .nilIface) (h : NoPre (sgn l).1 → readP (sgn l).1 = none ∨ uok 2 (sgn l).1 = false) : AtLead l n i err := by
 intro hl
 refine ⟨fun h => absurd h.2 he, fun _ => ?_⟩
 rcases h (lead_first hl).2.2 with h | h
 ·exact pf_none h
 ·exact pf_low h
theorem iface_ne {t : TypeId} {v : Value} : (Value.iface t v) ≠ .nilIface := by intro h; cases h
theorem mant_zero {ds : Bs} (h0 : ds = [] ∨ dig0 ds 0 ≠ 0) : mant ds = 0 ↔ ds = [] := by
 constructor
 ·intro h
  rcases h0 with h0 | h0
  ·exact h0
  ·exfalso
   have h1 := pre_mono (ds := ds) h0 (min 19 ds.length - 1)
   have hl : 0 < ds.length := by
    rcases Nat.eq_zero_or_pos ds.length with h2 | h2
    ·rw [List.eq_nil_of_length_eq_zero h2] at h0; exact absurd rfl h0
    ·exact h2
   rw [show min 19 ds.length - 1 + 1 = min 19 ds.length by omega] at h1
   have h2 : 0 < 10 ^ (min 19 ds.length - 1) := Nat.pow_pos (by omega)
   unfold mant at h; omega
 ·rintro rfl; rfl
theorem below_same (w : World) : Below w.heap.size w w := Below.refl _ _
theorem or_sgn0 (neg : Bool) : bits .or .u64 (sgnW neg : Int) 0 = (sgnW neg : Int) := or0 (sgnW neg) (by rcases sgnW_cases neg with ⟨_, h⟩ | ⟨_, h⟩ <;> omega)

def tail211 : List Value := [.int .i64 0, .int .i64 0, .bool false, .bool false]
theorem z211 : Tryz.zeroCells211 = (List.replicate 800 (Value.int .u8 0) ++ tail211).toArray := by kernel_rfl
theorem z211_at (i : Nat) : Tryz.zeroCells211[i]? = (List.replicate 800 (Value.int .u8 0) ++ tail211)[i]? := by rw [z211]; exact List.getElem?_toArray
theorem z211_end (j : Nat) : Tryz.zeroCells211[800 + j]? = tail211[j]? := by
 rw [z211_at, List.getElem?_append_right (by rw [List.length_replicate]; omega), List.length_replicate, Nat.add_sub_cancel_left]
theorem z211_dig (i : Nat) (hi : i < 800) : Tryz.zeroCells211[i]? = some (Value.int .u8 0) := by
 rw [z211_at, List.getElem?_append_left (by rw [List.length_replicate]; exact hi), List.getElem?_replicate, if_pos hi]
theorem size_alloc_lt (w : World) (o : Obj) : w.heap.size < (w.alloc o).heap.size := by
 show w.heap.size < (w.heap.push o).size
 rw [Array.size_push]; omega
theorem bd_new (w : World) : BD w.heap.size (fun _ => 0) 0 0 false false (w.alloc (.cells Tryz.zeroCells211 211)) := by
 have h := heap_alloc_new w (.cells Tryz.zeroCells211 211)
 have hc : ∀ i, (w.alloc (.cells Tryz.zeroCells211 211)).cell? ⟨w.heap.size, i, none⟩ = Tryz.zeroCells211[i]? := fun i => cell_of_row _ _ i _ _ _ h
 exact ⟨fun i hi => (hc i).trans (z211_dig i hi), (hc 800).trans (z211_end 0), (hc 801).trans (z211_end 1), (hc 802).trans (z211_end 2), (hc 803).trans (z211_end 3), fun i => frozen_of_row _ _ i _ _ h, size_alloc_lt _ _⟩
theorem fb_any (W0 : World) (a : Nat) (g : Nat → Nat) (nd : Nat) (dp : Int) (neg : Bool) (w : World) (HG : GW W0 a w) (hd : BD a g nd dp neg false w) (hc : nd = 0 ∨ Can0 g nd) :
  Calls Tryz.prog 141 #[.pointer (some ⟨a, 0, none⟩), .pointer (some ⟨5, 0, none⟩)] w (FbPost a g nd dp neg w) := by
 rcases hc with h | hc
 ·exact fb_zero W0 a g nd dp neg w HG hd h
 ·by_cases h1 : dp < -330
  ·exact fb_low W0 a g nd dp neg w HG hd hc h1
  ·by_cases h2 : 310 < dp
   ·exact fb_high W0 a g nd dp neg w HG hd hc h2
   ·exact fb_main W0 a g nd dp neg w HG hd hc (by omega) (by omega)
theorem at_slow {ds : Bs} {dp p : Int} {g : Nat → Nat} {nd b : Nat} {neg ov : Bool} {err : Value} (hf : FbIs g nd p neg b ov) (hp : p = dp) (hg : DigG ds nd g) (he : (ov = true ∧ err ≠ .nilIface) ∨ (ov = false ∧ err = .nilIface)) : AtIs neg ds dp b err := by
 intro d hs
 have h := hf d (by rw [hg.val, hg.1, hp]; exact sameDec_N hs)
 rcases he with ⟨a, b⟩ | ⟨a, b⟩
 ·exact Or.inr ⟨b, h.1 a neg⟩
 ·obtain ⟨r, h1, h2, h3⟩ := h.2 a
  exact Or.inl ⟨b, r, h1, h2, h3⟩
theorem pf64_I (neg : Bool) (d : Nat) (dd p : Int) (w : World) (HG : Glob w) (d0 : 0 < d) (d1 : d < 2 ^ 64) (p1 : -345 ≤ p) (p2 : p ≤ 310) (h : dd = (d : Int)) :
  Calls Tryz.prog 145 #[.int .u64 dd, .int .i64 p, .int .u64 (sgnW neg)] w (FastPost neg d p w) := by subst h; exact parseFloat64_any neg d p w HG d0 d1 p1 p2
set_option maxRecDepth 100000 in
set_option maxHeartbeats 8000000 in
theorem atof_dec (s : ByteArray) (l : Bs) (w : World) (HG : Glob w) (hl : StrIs s l) (hs : s.size ≤ 200) (hx : ¬ HexP (sgn l).1) :
    Calls Tryz.prog 130 #[.string s] w (AtPost l w) := by
  have hopt := HG.opt
  have HGG := Lib.hid HG
  have HL := Lib.hid hl
  have HX := Lib.hid hx
  clear HG hl hx
  go_enter Tryz.func130, Tryz.ntmps130
  go_wp2_with fail
  refine (special_any s l _ HL.out hs).mono ?_
  rintro e w' ⟨b, n0, ok, rfl, rfl, hsp⟩
  have HSP := Lib.hid hsp
  clear hsp
  rcases Bool.eq_false_or_eq_true ok with rfl | rfl
  · go_wp2
    go_ret3
    exact at_mk (below_same _) (Or.inl rfl) (fun h => by have := HSP.out h; cases this)
  clear HSP
  go_wp2_with fail
  refine (readFloat_dec s l _ HL.out hs HX.out).mono ?_
  rintro e w' ⟨m, p, neg, tr, i, ok, rfl, rfl, hi, hok, hno⟩
  have HOK := Lib.hid hok
  have HNO := Lib.hid hno
  clear hok hno
  cases ok
  · have HN := Lib.hid (HNO.out rfl)
    clear HNO HOK
    go_wp2
    go_ret3
    exact at_mk (below_same _) (Or.inr (Or.inr rfl)) (at_no iface_ne HN.out)
  clear HNO
  have HALL := Lib.hid (HOK.out rfl)
  clear HOK
  have hb1 : -200000 ≤ p ∧ p ≤ 200000 ∧ m < 10000000000000000000 := by
    obtain ⟨hng, ds, dp, r, hlen, hDig, hHead, hm, hTr, hp, hp1, hp2, hr1, hr2⟩ := HALL.out
    exact ⟨hp1, hp2, by rw [hm]; exact mant_bd hDig⟩
  obtain ⟨hp1, hp2, hmb⟩ := hb1
  go_upto_region 11 with fail
  go_cut [16] from 65 to 67 (fun x wc => x = .int .u64 (sgnW neg) ∧ w = wc)
  case first =>
    go_wp2_with fail
    refine (bool2u_any neg _).mono ?_
    rintro e w' ⟨rfl, rfl⟩
    cases neg
    · go_wp2
      go_meet
      case rel => exact ⟨rfl, rfl⟩
    · go_wp2
      go_meet
      case rel => exact ⟨rfl, rfl⟩
  case rest =>
  obtain ⟨rfl, rfl⟩ := hcut
  have HO := Lib.hid (or_sgn0 neg)
  obtain ⟨hng, ds, dp, r, hlen, hDig, hHead, hm, hTr, hp, _, _, hr1, hr2⟩ := HALL.out
  clear HALL
  have HFIN : Hid (∀ (n : Nat) (err : Value), (r = [] → AtIs neg ds dp n err) → AtLead l n i err) := Lib.hid (fun n err h => at_ok hlen hr1 hr2 (by rw [← hng]; exact h))
  have hmz : m = 0 ↔ ds = [] := by rw [hm]; exact mant_zero hHead
  by_cases h0 : m = 0
  · have hd0 := hmz.1 h0
    have HA : Hid (AtLead l (sgnW neg) i .nilIface) := Lib.hid (HFIN.out _ _ (fun _ => by rw [hd0]; exact at_zero neg dp))
    clear hmz hm hDig hHead hTr hp hr1 hr2 hlen hng hd0 HFIN hmb
    have hm0 : ((m : Int) == 0) = true := by rw [h0]; rfl
    clear h0
    have ho := HO.out
    generalize sgnW neg = S at *
    go_wp2
    go_ret3
    exact at_mk (below_same _) (Or.inl rfl) HA.out
  have hm0 : 0 < m := by omega
  have hdn : ds ≠ [] := fun h => h0 (hmz.2 h)
  have hh0 := hHead.resolve_left hdn
  rw [if_neg hdn] at hp
  have hq1 : 1 ≤ min 19 ds.length := by
    rcases Nat.eq_zero_or_pos ds.length with h2 | h2
    · exact absurd (List.eq_nil_of_length_eq_zero h2) hdn
    · omega
  have hmn : ((m : Int) == 0) = false := by rw [beq_eq_false_iff_ne]; omega
  by_cases hbig : 310 < p
  · have HA : Hid (∀ n, AtLead l n i (.iface 175 (.int .i64 1))) := Lib.hid (fun n => HFIN.out _ _ (fun _ => at_large iface_ne hDig hh0 (by omega)))
    clear hmz hm hDig hHead hTr hp hr1 hr2 hlen hng HFIN hmb hq1 hh0 hdn h0
    generalize sgnW neg = S at *
    go_wp2
    go_ret3
    exact at_mk (below_same _) (Or.inr (Or.inl rfl)) (HA.out _)
  by_cases hsm : p < -345
  · have HA : Hid (AtLead l (sgnW neg) i .nilIface) := Lib.hid (HFIN.out _ _ (fun _ => at_small hDig (by omega)))
    clear hmz hm hDig hHead hTr hp hr1 hr2 hlen hng HFIN hmb hq1 hh0 hdn h0
    have ho := HO.out
    generalize sgnW neg = S at *
    go_wp2
    go_ret3
    exact at_mk (below_same _) (Or.inl rfl) HA.out
  have HM := Lib.hid (show m = mant ds ∧ p = dp - (min 19 ds.length : Nat) from ⟨hm, hp⟩)
  have HTR := Lib.hid hTr
  have HDIG := Lib.hid hDig
  have HR := Lib.hid (show r = [] → readP (sgn l).1 = some (ds, dp) from fun h => (hr1 h).1)
  have HLEN := Lib.hid hlen
  have HNG := Lib.hid hng
  have hmb2 : m < 2 ^ 64 := by have : 2 ^ 64 = 18446744073709551616 := by decide
                               omega
  have hmb3 : m + 1 < 2 ^ 64 := by have : 2 ^ 64 = 18446744073709551616 := by decide
                                   omega
  have hmi : (m : Int) + 1 < 18446744073709551616 := by omega
  clear hmz hm hDig hHead hTr hp hr1 hr2 hlen hng hq1 hh0 hdn h0
  cases tr
  · go_wp2_with fail
    refine (exact_any neg m p _ HGG.out hm0 hmb2 (by omega) (by omega)).mono ?_
    rintro e w' ⟨n, ok, rfl, hex, rfl⟩
    have HEX := Lib.hid hex
    clear hex
    rcases Bool.eq_false_or_eq_true ok with rfl | rfl
    · have HA : Hid (AtLead l n i .nilIface) := Lib.hid (HFIN.out _ _ (fun _ => at_whole HDIG.out HTR.out (Or.inl ⟨rfl, by have := HEX.out rfl; rw [HM.out.1, HM.out.2] at this; exact this⟩)))
      clear HEX
      go_wp2
      go_ret3
      exact at_mk (below_same _) (Or.inl rfl) HA.out
    clear HEX
    obtain ⟨n1, err1, hf, hcase⟩ := fastR_is2 (neg := neg) hm0 hmb2 (show -345 ≤ p by omega) (show p ≤ 310 by omega)
    have HF := Lib.hid hf
    have HA : Hid (AtLead l n1 i err1) := Lib.hid (HFIN.out _ _ (fun _ => at_whole HDIG.out HTR.out (by
      rw [← HM.out.1, ← HM.out.2]
      rcases hcase with ⟨a, b⟩ | ⟨a, b, _⟩
      · exact Or.inl ⟨a, b⟩
      · exact Or.inr ⟨by rw [a]; exact iface_ne, b⟩)))
    have HE : Hid (ErrI err1) := Lib.hid (by
      rcases hcase with ⟨a, _⟩ | ⟨a, _⟩
      · exact Or.inl a
      · exact Or.inr (Or.inl a))
    clear hf hcase
    go_wp2_with fail
    refine (parseFloat64_any neg m p _ HGG.out hm0 hmb2 (by omega) (by omega)).mono ?_
    rintro e w' ⟨he, hb⟩
    rw [HF.out] at he
    subst he
    have HB := Lib.hid hb
    clear hb
    go_wp2
    go_ret3
    exact at_mk HB.out HE.out HA.out
  · obtain ⟨n1, err1, hf, hcase⟩ := fastR_is2 (neg := neg) hm0 hmb2 (show -345 ≤ p by omega) (show p ≤ 310 by omega)
    obtain ⟨n2, err2, hf2, hcase2⟩ := fastR_is2 (neg := neg) (show 0 < m + 1 by omega) hmb3 (show -345 ≤ p by omega) (show p ≤ 310 by omega)
    have HF := Lib.hid hf
    have HF2 := Lib.hid hf2
    have HC := Lib.hid hcase
    have HC2 := Lib.hid hcase2
    clear hf hf2 hcase hcase2
    go_wp2_with fail
    refine (parseFloat64_any neg m p _ HGG.out hm0 hmb2 (by omega) (by omega)).mono ?_
    rintro e w1 ⟨he, hb⟩
    rw [HF.out] at he
    subst he
    have HB1 := Lib.hid hb
    have HG1 := Lib.hid (HGG.out.below hb)
    clear hb
    go_wp2_with fail
    refine (pf64_I neg (m + 1) _ p _ HG1.out (by omega) hmb3 (by omega) (by omega) (by omega)).mono ?_
    rintro e w2 ⟨he, hb⟩
    rw [HF2.out] at he
    subst he
    have HB2 := Lib.hid (HB1.out.trans (hb.mono HB1.out.size))
    have HG2 := Lib.hid (HG1.out.below hb)
    clear hb HB1 HG1
    have HEE : Hid (ErrI err1) := Lib.hid (by
      rcases HC.out with ⟨a, _⟩ | ⟨a, _⟩
      · exact Or.inl a
      · exact Or.inr (Or.inl a))
    go_upto_if 121 with fail
    cases heq : (FloatKind.f64.format.order n1 n2 == some Ordering.eq)
    · clear HC HC2 HF HF2 HM HTR HEE
      go_upto_region 29 with fail
      have HBD := Lib.hid (bd_new w2)
      have HB3 : Hid (Below w2.heap.size w2 (w2.alloc (.cells Tryz.zeroCells211 211))) := Lib.hid ((Below.refl _ _).alloc (Nat.le_refl _) _)
      have HSZ : Hid (w2.heap.size < (w2.alloc (.cells Tryz.zeroCells211 211)).heap.size) := Lib.hid (size_alloc_lt _ _)
      generalize w2.alloc (.cells Tryz.zeroCells211 211) = w3 at *
      have HTK : Hid (StrIs (s.extract 0 i) (l.take i)) := Lib.hid (HL.out.take i)
      have HTZ : Hid ((s.extract 0 i).size ≤ 200) := Lib.hid (by simp; omega)
      have his : i ≤ s.size := by rw [HL.out.size]; exact hi
      generalize hga : w2.heap.size = a at *
      have HGA := Lib.hid hga
      clear hga
      go_wp2_with fail
      refine (set_any a _ (l.take i) w3 _ _ _ HBD.out HTK.out HTZ.out).mono ?_
      rintro e w4 ⟨ok, g, nd, p', neg', rfl, hbd, hfz, hset, hok⟩
      have HBD4 := Lib.hid hbd
      have HFZ4 := Lib.hid hfz
      have HSET := Lib.hid hset
      have HOK4 := Lib.hid hok
      have HB4 : Hid (Below w.heap.size w w4) := Lib.hid ((HB2.out.trans (HB3.out.mono (by rw [← HGA.out]; exact HB2.out.size))).trans (hfz.fr.below (by rw [← HGA.out]; exact HB2.out.size) (by have := HSZ.out; have := HB2.out.size; have := HGA.out; omega)))
      have HGW : Hid (GW w2 a w4) := Lib.hid ⟨HG2.out, by rw [HGA.out]; exact Nat.le_refl _, by rw [hfz.size]; exact HSZ.out, by
        have h3 := HB3.out
        rw [← HGA.out] at h3
        exact h3.trans (hfz.fr.below (by rw [HGA.out]; exact Nat.le_refl _) (by have := h3.size; omega))⟩
      have HALL : Hid (r = [] → l.take i = l) := Lib.hid (fun h => by
        rw [List.take_of_length_le]
        have := HLEN.out
        rw [h] at this
        simp at this; omega)
      have HB2S : Hid (w.heap.size ≤ w2.heap.size) := Lib.hid HB2.out.size
      clear hbd hfz hset hok HBD HB3 HSZ HB2 HG2
      cases ok
      · have HA : Hid (AtLead l 0 i (.iface 175 (.int .i64 2))) := Lib.hid (HFIN.out _ _ (fun h => by
          exfalso
          have h1 := HSET.out
          unfold SetIs at h1
          rw [HALL.out h, HR.out h] at h1
          cases h1.1))
        go_wp2
        go_ret3
        exact at_mk HB4.out (Or.inr (Or.inr rfl)) HA.out
      · obtain ⟨hn1, hn2, hn3⟩ := HOK4.out rfl
        have HNEG : Hid (r = [] → neg' = neg) := Lib.hid (fun h => by rw [hn1, HALL.out h, HNG.out])
        have HCAN := Lib.hid hn3
        clear hn1 hn2 hn3 HOK4
        go_wp2_with fail
        refine (fb_any w2 a g nd p' neg' w4 HGW.out HBD4.out HCAN.out).mono ?_
        rintro e w5 ⟨bb, ov, rfl, hb64, hfb, hfz5⟩
        have HB5 : Hid (Below w.heap.size w w5) := Lib.hid (HB4.out.trans (hfz5.fr.below (by have h1 := HGW.out.le; have h2 := HB4.out.size; have h3 := HB2S.out; omega) (by have := HB4.out.size; omega)))
        have HFB : Hid (∀ err : Value, (ov = true ∧ err ≠ .nilIface) ∨ (ov = false ∧ err = .nilIface) → AtLead l bb i err) := Lib.hid (fun err he => HFIN.out _ _ (fun h => by
          have h1 := HSET.out
          unfold SetIs at h1
          rw [HALL.out h, HR.out h] at h1
          have h2 := at_slow hfb h1.2.1 h1.2.2 he
          rw [HNEG.out h] at h2
          exact h2))
        clear hfb hfz5 hb64 HSET
        cases ov
        · have HA := Lib.hid (HFB.out .nilIface (Or.inr ⟨rfl, rfl⟩))
          clear HFB
          go_wp2
          go_ret3
          exact at_mk HB5.out (Or.inl rfl) HA.out
        · have HA := Lib.hid (HFB.out (.iface 175 (.int .i64 1)) (Or.inl ⟨rfl, iface_ne⟩))
          clear HFB
          go_wp2
          go_ret3
          exact at_mk HB5.out (Or.inr (Or.inl rfl)) HA.out
    · have HA : Hid (AtLead l n1 i err1) := Lib.hid (HFIN.out _ _ (fun _ => at_eq HDIG.out (by rw [← HM.out.1, ← HM.out.2]; exact HC.out) (by rw [← HM.out.1, ← HM.out.2]; exact HC2.out) heq))
      clear heq HC HC2 HF HF2
      go_wp2
      go_ret3
      exact at_mk HB2.out HEE.out HA.out
end Go.Proofs.YtillamhoakohdaaGreatDoor
