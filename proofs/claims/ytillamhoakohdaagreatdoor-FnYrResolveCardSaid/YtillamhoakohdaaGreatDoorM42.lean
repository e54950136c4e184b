/-
  Walks: the slow decimal is read from a text. Walks: the library's look at low lines. Plain law for readFloat: what is kept of the digits; nothing is walked here. Plain law: the library's choice among its roads to a float.
-/
import Derived.Test.YtillamhoakohdaaGreatDoorM19
import Derived.Test.YtillamhoakohdaaGreatDoorM28
import Derived.Test.YtillamhoakohdaaGreatDoorM30
import Derived.Test.YtillamhoakohdaaGreatDoorM40
import Derived.Test.YtillamhoakohdaaGreatDoorM41
set_option linter.unusedVariables false
set_option linter.unusedSimpArgs false
namespace Go.Proofs.YtillamhoakohdaaGreatDoor
open Go.RowKit
attribute [local go_sem] setCell_drewN

theorem lower8_any (c : UInt8) (w : World) : Calls Tryz.prog 150 #[.int .u8 c.toNat] w fun e w' => e = .returned (.int .u8 (c ||| 32).toNat) ∧ w = w' := by
 have h := or32 c
 generalize (c ||| 32).toNat = d at *
 go_enter Tryz.func150, Tryz.ntmps150
 go_wp2
 go_ret
 exact ⟨rfl, rfl⟩
theorem scan_dig : ∀ (l : Bs) (dot sm : Bool) (ds : Bs) (dp : Int), Dig ds → (ds = [] ∨ dig0 ds 0 ≠ 0) → Dig (scan dot sm ds dp l).2.1 ∧ ((scan dot sm ds dp l).2.1 = [] ∨ dig0 (scan dot sm ds dp l).2.1 0 ≠ 0)
 | [], _, _, _, _, h1, h2 => ⟨h1, h2⟩
 | c :: l, dot, sm, ds, dp, h1, h2 => by
  rw [scan]
  split
  ·exact scan_dig l _ _ _ _ h1 h2
  ·split
   ·exact scan_dig l _ _ _ _ h1 h2
   ·split
    ·rename_i hc
     have h48 := sub48 hc
     split
     ·rename_i hnz
      refine scan_dig l _ _ _ _ ?_ (Or.inr ?_)
      ·intro d hd
       rcases List.mem_append.1 hd with h3 | h3
       ·exact h1 d h3
       ·rw [List.mem_singleton.1 h3, h48.1]; exact h48.2
      ·cases ds with
       | nil =>
        show (c - 48).toNat ≠ 0
        rw [h48.1]
        have : c ≠ 48 := hnz.resolve_left (fun h => h rfl)
        have : c.toNat ≠ 48 := fun e => this (UInt8.toNat_inj.1 e)
        rw [isDig_eq] at hc; simp at hc
        omega
       | cons d r => exact h2.resolve_left (by simp)
     ·exact scan_dig l _ _ _ _ h1 h2
    ·exact ⟨h1, h2⟩
def DigG (ds : Bs) (nd : Nat) (g : Nat → Nat) : Prop := nd = ds.length ∧ ∀ i, i < nd → g i = dig0 ds i + 48
theorem DigG.snoc {ds : Bs} {nd : Nat} {g : Nat → Nat} (h : DigG ds nd g) {c : UInt8} (hc : isDig c = true) : DigG (ds ++ [c - 48]) (nd + 1) (updN g nd c.toNat) := by
 refine ⟨by rw [h.1]; simp, fun i hi => ?_⟩
 have h48 := sub48 hc
 rw [isDig_eq] at hc; simp at hc
 by_cases e : i = nd
 ·subst e
  rw [upd_same]
  unfold dig0
  rw [h.1, List.getElem?_append_right (Nat.le_refl _), Nat.sub_self]
  show c.toNat = (c - 48).toNat + 48
  omega
 ·rw [upd_other _ _ e, h.2 i (by omega)]
  unfold dig0
  rw [List.getElem?_append_left (by have := h.1; omega)]
theorem DigG.can {ds : Bs} {nd : Nat} {g : Nat → Nat} (h : DigG ds nd g) (hd : Dig ds) (h0 : ds = [] ∨ dig0 ds 0 ≠ 0) (hl : nd ≤ 800) : nd = 0 ∨ Can0 g nd := by
 rcases Nat.eq_zero_or_pos nd with h1 | h1
 ·exact Or.inl h1
 ·right
  refine ⟨fun i hi => ?_, h1, hl, ?_⟩
  ·have := dig0_lt hd i; rw [h.2 i hi]; omega
  ·have h2 := h0.resolve_left (by intro e; have := h.1; rw [e] at this; simp at this; omega)
   rw [h.2 0 h1]; omega
theorem DigG.val {ds : Bs} {nd : Nat} {g : Nat → Nat} (h : DigG ds nd g) : dn g nd = decV ds := by
 have key : ∀ i, i ≤ nd → dn g i = pre ds i := by
  intro i
  induction i with
  | zero => intro _; rfl
  | succ i ih =>
   intro hi
   rw [dn_succ, ih (by omega), pre, h.2 i (by omega)]; omega
 rw [key nd (Nat.le_refl _)]
 unfold decV
 rw [h.1]
def PtI (dot : Bool) (ds : Bs) (dp p : Int) : Prop := if dot = true then p = dp else dp = ds.length
def SetIs (t : Bs) (g : Nat → Nat) (nd : Nat) (p : Int) (ok : Bool) : Prop :=
 match readP t with
 | none => ok = false
 | some (ds, dp) => ok = true ∧ p = dp ∧ DigG ds nd g
def SetPost (a : Nat) (l : Bs) (w : World) (e : Ending) (w' : World) : Prop :=
 ∃ (ok : Bool) (g : Nat → Nat) (nd : Nat) (p : Int) (neg : Bool), e = .returned (.bool ok) ∧ BD a g nd p neg false w' ∧ Fz a w w' ∧ SetIs (sgn l).1 g nd p ok ∧ (ok = true → neg = (sgn l).2.1 ∧ nd ≤ 800 ∧ (nd = 0 ∨ Can0 g nd))
theorem set_none {a : Nat} {l : Bs} {w w' : World} {g : Nat → Nat} {nd : Nat} {p : Int} {neg : Bool} (hb : BD a g nd p neg false w') (hf : Fz a w w') (h : readP (sgn l).1 = none) : SetPost a l w (.returned (.bool false)) w' :=
 ⟨false, g, nd, p, neg, rfl, hb, hf, by unfold SetIs; rw [h], fun h => (by cases h)⟩
theorem set_some {a : Nat} {l ds : Bs} {w w' : World} {g : Nat → Nat} {nd : Nat} {p : Int} (hb : BD a g nd p (sgn l).2.1 false w') (hf : Fz a w w') (h : readP (sgn l).1 = some (ds, p)) (hg : DigG ds nd g) (hl : nd ≤ 800) : SetPost a l w (.returned (.bool true)) w' := by
 refine ⟨true, g, nd, p, _, rfl, hb, hf, by unfold SetIs; rw [h]; exact ⟨rfl, rfl, hg⟩, fun _ => ⟨rfl, hl, ?_⟩⟩
 have := scan_dig (sgn l).1 false false [] 0 (by simp [Dig]) (Or.inl rfl)
 unfold readP at h
 simp only at h
 split at h
 ·cases he : expR (scan false false [] 0 (sgn l).1).2.2.2 with
  | none => rw [he] at h; cases h
  | some e =>
   rw [he] at h
   simp only [Option.map_some, Option.some.injEq, Prod.mk.injEq] at h
   rw [h.1] at this
   exact hg.can this.1 this.2 hl
 ·cases h
end Go.Proofs.YtillamhoakohdaaGreatDoor
namespace Go.Proofs.YtillamhoakohdaaGreatDoor
open Go.RowKit
attribute [local go_sem] setCell_drewN

def UokPost (l : Bs) (w : World) (e : Ending) (w' : World) : Prop := ∃ B, e = .returned (.bool B) ∧ w = w' ∧ (NoPre (sgn l).1 → B = uok 2 (sgn l).1)
def HexI (t : Bs) (hx : Bool) (st : Nat) (l : Bs) : Prop := NoPre t → hx = false ∧ uok 2 t = uok st l
theorem noPre_or {b : UInt8} {q : Bs} (h : ¬ NoPre (48 :: b :: q)) : b = 98 ∨ b = 66 ∨ b = 111 ∨ b = 79 ∨ b = 120 ∨ b = 88 := by
 apply Classical.byContradiction
 intro h2
 apply h
 intro c r hc
 simp only [List.cons.injEq, true_and] at hc
 rw [← hc.1]
 refine ⟨?_, ?_, ?_, ?_, ?_, ?_⟩ <;> (intro e; apply h2; simp [e])
set_option maxRecDepth 100000 in
set_option maxHeartbeats 4000000 in
theorem uok8_any (s : ByteArray) (l : Bs) (w : World) (hl : StrIs s l) (hs : s.size ≤ 1000) :
  Calls Tryz.prog 151 #[.string s] w (UokPost l w) := by
 go_enter Tryz.func151, Tryz.ntmps151
 go_upto_region 3 with fail
 go_cut [18] from 6 to 17 (fun v wc => v = .bool (sgn l).2.2 ∧ w = wc)
 case first =>
  match l, hl with
  | [], hl =>
   have hz : s.size = 0 := by have := hl.size; simpa using this
   have hz1 : s.size < 1 := by omega
   go_wp2
   go_meet
   case rel => exact ⟨rfl, rfl⟩
  | c :: r, hl =>
   obtain ⟨h0, e0⟩ := hl.cons
   have h0' : 1 ≤ s.size := h0
   have f1 := show ((c.toNat : Int) == 45) = decide (c = 45) from byte_dec c 45
   have f2 := show ((c.toNat : Int) == 43) = decide (c = 43) from byte_dec c 43
   by_cases h1 : c = 45
   ·subst h1
    go_wp2
    go_meet
    case rel => exact ⟨rfl, rfl⟩
   ·by_cases h2 : c = 43
    ·subst h2
     go_wp2
     go_meet
     case rel => exact ⟨rfl, rfl⟩
    ·have f1' : ((c.toNat : Int) == 45) = false := by rw [f1]; simp [h1]
     have f2' : ((c.toNat : Int) == 43) = false := by rw [f2]; simp [h2]
     clear f1 f2
     go_wp2
     go_meet
     case rel => exact ⟨by rw [sgn_cons, if_neg h1, if_neg h2], rfl⟩
 case rest =>
 obtain ⟨rfl, rfl⟩ := hcut
 go_upto_if 18 with fail
 go_cut [0] from 18 to 20 (fun v wc => ∃ r, v = .string r ∧ StrIs r (sgn l).1 ∧ r.size ≤ 1000 ∧ w = wc)
 case first =>
  cases hb : (sgn l).2.2
  ·have hq : (sgn l).1 = l := sgn_none hb
   go_wp2
   go_meet
   case rel => exact ⟨s, rfl, by rw [hq]; exact hl, hs, rfl⟩
  ·have hq : (sgn l).1 = l.drop 1 ∧ 1 ≤ s.size := by
    refine ⟨sgn_some hb, ?_⟩
    cases l with
    | nil => cases hb
    | cons c r => rw [hl.size]; simp
   have h1s : (1 : Int) ≤ (s.size : Int) := by omega
   have HR : Hid (StrIs (s.extract 1 s.size) (sgn l).1) := Lib.hid (by rw [hq.1]; exact hl.drop 1)
   have HRS : Hid ((s.extract 1 s.size).size ≤ 1000) := Lib.hid (by simp; omega)
   clear hb
   go_wp2
   go_meet
   case rel => exact ⟨_, rfl, HR.out, HRS.out, rfl⟩
 case rest =>
 obtain ⟨r, rfl, hr, hrs, rfl⟩ := hcut
 clear hl hs
 generalize ht : (sgn l).1 = t at *
 go_upto_region 6 with fail
 go_cut [46] from 21 to 45 (fun v wc => ∃ B, v = .bool B ∧ Hid (NoPre t → B = false) ∧ Hid (B = true → 2 ≤ r.size) ∧ w = wc)
 case first =>
  match t, hr with
  | [], hr =>
   have hz : r.size < 2 := by have := hr.size; rw [this]; first | done | simp
   go_wp2
   go_meet
   case rel => exact ⟨false, rfl, Lib.hid (fun _ => rfl), Lib.hid (fun h => (by cases h)), rfl⟩
  | [_], hr =>
   have hz : r.size < 2 := by have := hr.size; rw [this]; first | done | simp
   go_wp2
   go_meet
   case rel => exact ⟨false, rfl, Lib.hid (fun _ => rfl), Lib.hid (fun h => (by cases h)), rfl⟩
  | a :: b :: q, hr =>
   obtain ⟨h0, h1, e0, e1⟩ := hr.cons2
   have hz : 2 ≤ r.size := by omega
   by_cases ha : a = 48
   ·subst ha
    have lw := lower_is b
    by_cases hp : NoPre (48 :: b :: q)
    ·have hb := hp b q rfl
     have k1 : (((b ||| 32).toNat : Int) == 98) = false := byte_ne (d := 98) (fun e => (lw.1.1 e).elim hb.1 hb.2.1)
     have k2 : (((b ||| 32).toNat : Int) == 111) = false := byte_ne (d := 111) (fun e => (lw.2.1.1 e).elim hb.2.2.1 hb.2.2.2.1)
     have k3 : (((b ||| 32).toNat : Int) == 120) = false := byte_ne (d := 120) (fun e => (lw.2.2.1 e).elim hb.2.2.2.2.1 hb.2.2.2.2.2)
     have L := fun w => lower8_any b w
     clear lw hb hp
     generalize (b ||| 32).toNat = lb at *
     go_wp2_with fail
     refine (L _).mono ?_
     rintro e w' ⟨rfl, rfl⟩
     go_wp2_with fail
     refine (L _).mono ?_
     rintro e w' ⟨rfl, rfl⟩
     go_wp2_with fail
     refine (L _).mono ?_
     rintro e w' ⟨rfl, rfl⟩
     go_wp2
     go_meet
     case rel => exact ⟨false, rfl, Lib.hid (fun _ => rfl), Lib.hid (fun h => (by cases h)), rfl⟩
    ·have HNP := Lib.hid hp
     have q3 : (b ||| 32) = 98 ∨ ((b ||| 32) ≠ 98 ∧ (b ||| 32) = 111) ∨ ((b ||| 32) ≠ 98 ∧ (b ||| 32) ≠ 111 ∧ (b ||| 32) = 120) := by
      rcases noPre_or hp with h | h | h | h | h | h <;> subst h <;> decide
     have L := fun w => lower8_any b w
     clear lw hp
     generalize (b ||| 32) = lb at *
     rcases q3 with rfl | ⟨n1, rfl⟩ | ⟨n1, n2, rfl⟩
     ·go_wp2_with fail
      refine (L _).mono ?_
      rintro e w' ⟨rfl, rfl⟩
      go_wp2
      go_meet
      case rel => exact ⟨true, rfl, Lib.hid (fun h => absurd h HNP.out), Lib.hid (fun _ => hz), rfl⟩
     ·go_wp2_with fail
      refine (L _).mono ?_
      rintro e w' ⟨rfl, rfl⟩
      go_wp2_with fail
      refine (L _).mono ?_
      rintro e w' ⟨rfl, rfl⟩
      go_wp2
      go_meet
      case rel => exact ⟨true, rfl, Lib.hid (fun h => absurd h HNP.out), Lib.hid (fun _ => hz), rfl⟩
     ·go_wp2_with fail
      refine (L _).mono ?_
      rintro e w' ⟨rfl, rfl⟩
      go_wp2_with fail
      refine (L _).mono ?_
      rintro e w' ⟨rfl, rfl⟩
      go_wp2_with fail
      refine (L _).mono ?_
      rintro e w' ⟨rfl, rfl⟩
      go_wp2
      go_meet
      case rel => exact ⟨true, rfl, Lib.hid (fun h => absurd h HNP.out), Lib.hid (fun _ => hz), rfl⟩
   ·have k1 : ((a.toNat : Int) == 48) = false := byte_ne (d := 48) ha
    go_wp2
    go_meet
    case rel => exact ⟨false, rfl, Lib.hid (fun _ => rfl), Lib.hid (fun h => (by cases h)), rfl⟩
 case rest =>
 obtain ⟨B, rfl, HB1, HB2, rfl⟩ := hcut
 unfold StrIs at hr
 subst hr
 have HT := Lib.hid ht
 clear ht
 go_upto_if 46 with fail
 go_cut [3, 4, 5] from 46 to 50 (fun x i h wc => ∃ (k st : Nat) (z : Int) (hx : Bool), i = .int .i64 k ∧ k ≤ r.size ∧ x = .int .i32 z ∧ h = .bool hx ∧ 0 ≤ z ∧ z < 256 ∧ Hid ((st = 0 ∧ z = 48) ∨ (st = 1 ∧ z = 95) ∨ (st = 2 ∧ z ≠ 48 ∧ z ≠ 95)) ∧ Hid (HexI r.data.toList hx st (r.data.toList.drop k)) ∧ w = wc)
 case first =>
  cases B
  ·go_wp2
   go_meet
   case rel => exact ⟨0, 2, 94, false, rfl, Nat.zero_le _, rfl, rfl, by omega, by omega, Lib.hid (by omega), Lib.hid (fun _ => ⟨rfl, by simp⟩), rfl⟩
  ·have hz : 2 ≤ r.size := HB2.out rfl
   have HNP : Hid (¬ NoPre r.data.toList) := Lib.hid (fun h => by have := HB1.out h; cases this)
   have h1 : 1 < r.size := by omega
   generalize hc : r[1] = c at *
   go_wp2_with fail
   refine (lower8_any c _).mono ?_
   rintro e w' ⟨rfl, rfl⟩
   generalize (c ||| 32).toNat = lb at *
   go_wp2
   go_meet
   case rel => exact ⟨2, 0, 48, _, by go_num, hz, rfl, rfl, by omega, by omega, Lib.hid (by omega), Lib.hid (fun h => absurd h HNP.out), rfl⟩
 case rest =>
 obtain ⟨k0, st0, z0, hx, rfl, hk0, rfl, rfl, hz0, hz1, HZ0, HH0, rfl⟩ := hcut
 clear HB1 HB2
 go_upto_region 10 with fail
 go_loop [3, 4] (fun x i => ∃ (k st : Nat) (z : Int), i = .int .i64 k ∧ k ≤ r.size ∧ x = .int .i32 z ∧ 0 ≤ z ∧ z < 256 ∧ Hid ((st = 0 ∧ z = 48) ∨ (st = 1 ∧ z = 95) ∨ (st = 2 ∧ z ≠ 48 ∧ z ≠ 95)) ∧ Hid (HexI r.data.toList hx st (r.data.toList.drop k))) (fun _ i => r.size - (intOf i).toNat)
 case atStart => exact ⟨k0, st0, z0, rfl, hk0, rfl, hz0, hz1, HZ0, HH0⟩
 case round =>
  clear HZ0 HH0 hz0 hz1 hk0
  obtain ⟨k, st, z, rfl, hk, rfl, hz0, hz1, HZ, H⟩ := hrel
  by_cases hlt : k < r.size
  ·have hdr := Lib.hid (drop_cons r k hlt)
   have hlti : (k : Int) < (r.size : Int) := by omega
   generalize hc : r[k] = c at *
   by_cases hd : isDig c = true
   ·have hd2 : 48 ≤ (c.toNat : Int) ∧ (c.toNat : Int) ≤ 57 := by rw [isDig_eq] at hd; simp at hd; omega
    have HN : Hid (HexI r.data.toList hx 0 (r.data.toList.drop (k + 1))) := Lib.hid (fun hp => ⟨(H.out hp).1, by rw [(H.out hp).2, hdr.out, uok_yes hd]⟩)
    clear hd H
    go_wp2
    go_round
    case rel => exact ⟨k + 1, 0, 48, by go_num, by omega, rfl, by omega, by omega, Lib.hid (by omega), HN⟩
    case measure => simp [intOf]; omega
   ·have hd2 : ¬ (48 ≤ (c.toNat : Int) ∧ (c.toNat : Int) ≤ 57) := by rw [isDig_eq] at hd; simp at hd; omega
    have q : (c.toNat : Int) < 48 ∨ 57 < (c.toNat : Int) := by omega
    have L := fun w => lower8_any c w
    generalize (c ||| 32).toNat = lb at *
    have q3 : hx = false ∨ (hx = true ∧ (lb : Int) < 97) ∨ (hx = true ∧ (97 : Int) ≤ lb ∧ (102 : Int) < lb) ∨ (hx = true ∧ (97 : Int) ≤ lb ∧ (lb : Int) ≤ 102) := by
     cases hx
     ·exact Or.inl rfl
     ·simp; omega
    rcases q3 with hx0 | ⟨hx0, g1⟩ | ⟨hx0, g1, g2⟩ | ⟨hx0, g1, g2⟩
    ·by_cases h95 : c = 95
     ·by_cases hst : st = 0
      ·have hz48 : z = 48 := by have := HZ.out; omega
       have HN : Hid (HexI r.data.toList hx 1 (r.data.toList.drop (k + 1))) := Lib.hid (fun hp => ⟨(H.out hp).1, by rw [(H.out hp).2, hdr.out, h95, uok_low, if_pos hst]⟩)
       have k95 : ((c.toNat : Int) == 95) = true := by rw [h95]; rfl
       subst hz48
       clear hd H hd2 HZ h95
       rcases q with q | q
       ·subst hx0
        go_wp2
        go_round
        case rel => exact ⟨k + 1, 1, 95, by go_num, by omega, rfl, by omega, by omega, Lib.hid (by omega), HN⟩
        case measure => simp [intOf]; omega
       ·subst hx0
        go_wp2
        go_round
        case rel => exact ⟨k + 1, 1, 95, by go_num, by omega, rfl, by omega, by omega, Lib.hid (by omega), HN⟩
        case measure => simp [intOf]; omega
      ·have hz48 : (z != 48) = true := by rw [bne_iff_ne]; have := HZ.out; omega
       have HN : Hid (NoPre r.data.toList → uok 2 r.data.toList = false) := Lib.hid (fun hp => by rw [(H.out hp).2, hdr.out, h95, uok_low, if_neg hst])
       have k95 : ((c.toNat : Int) == 95) = true := by rw [h95]; rfl
       clear hd H hd2 HZ h95
       rcases q with q | q
       ·subst hx0
        go_wp2
        go_ret
        exact ⟨false, rfl, rfl, fun hp => by rw [HT.out] at hp ⊢; rw [HN.out hp]⟩
       ·subst hx0
        go_wp2
        go_ret
        exact ⟨false, rfl, rfl, fun hp => by rw [HT.out] at hp ⊢; rw [HN.out hp]⟩
     ·have k95 : ((c.toNat : Int) == 95) = false := byte_ne (d := 95) h95
      by_cases hst : st = 1
      ·have hz95 : z = 95 := by have := HZ.out; omega
       have HN : Hid (NoPre r.data.toList → uok 2 r.data.toList = false) := Lib.hid (fun hp => by rw [(H.out hp).2, hdr.out, uok_oth hd h95, if_pos hst])
       subst hz95
       clear hd H HZ hd2 h95
       rcases q with q | q
       ·subst hx0
        go_wp2
        go_ret
        exact ⟨false, rfl, rfl, fun hp => by rw [HT.out] at hp ⊢; rw [HN.out hp]⟩
       ·subst hx0
        go_wp2
        go_ret
        exact ⟨false, rfl, rfl, fun hp => by rw [HT.out] at hp ⊢; rw [HN.out hp]⟩
      ·have hz95 : (z == 95) = false := by rw [beq_eq_false_iff_ne]; have := HZ.out; omega
       have HN : Hid (HexI r.data.toList hx 2 (r.data.toList.drop (k + 1))) := Lib.hid (fun hp => ⟨(H.out hp).1, by rw [(H.out hp).2, hdr.out, uok_oth hd h95, if_neg hst]⟩)
       clear hd H HZ hd2 h95
       rcases q with q | q
       ·subst hx0
        go_wp2
        go_round
        case rel => exact ⟨k + 1, 2, 33, by go_num, by omega, rfl, by omega, by omega, Lib.hid (by omega), HN⟩
        case measure => simp [intOf]; omega
       ·subst hx0
        go_wp2
        go_round
        case rel => exact ⟨k + 1, 2, 33, by go_num, by omega, rfl, by omega, by omega, Lib.hid (by omega), HN⟩
        case measure => simp [intOf]; omega
    ·by_cases h95 : c = 95
     ·by_cases hst : st = 0
      ·have hz48 : z = 48 := by have := HZ.out; omega
       have HN : Hid (HexI r.data.toList hx 1 (r.data.toList.drop (k + 1))) := Lib.hid (fun hp => ⟨(H.out hp).1, by rw [(H.out hp).2, hdr.out, h95, uok_low, if_pos hst]⟩)
       have k95 : ((c.toNat : Int) == 95) = true := by rw [h95]; rfl
       subst hz48
       clear hd H hd2 HZ h95
       rcases q with q | q
       ·subst hx0
        go_wp2_with fail
        refine (L _).mono ?_
        rintro e w' ⟨rfl, rfl⟩
        go_wp2
        go_round
        case rel => exact ⟨k + 1, 1, 95, by go_num, by omega, rfl, by omega, by omega, Lib.hid (by omega), HN⟩
        case measure => simp [intOf]; omega
       ·subst hx0
        go_wp2_with fail
        refine (L _).mono ?_
        rintro e w' ⟨rfl, rfl⟩
        go_wp2
        go_round
        case rel => exact ⟨k + 1, 1, 95, by go_num, by omega, rfl, by omega, by omega, Lib.hid (by omega), HN⟩
        case measure => simp [intOf]; omega
      ·have hz48 : (z != 48) = true := by rw [bne_iff_ne]; have := HZ.out; omega
       have HN : Hid (NoPre r.data.toList → uok 2 r.data.toList = false) := Lib.hid (fun hp => by rw [(H.out hp).2, hdr.out, h95, uok_low, if_neg hst])
       have k95 : ((c.toNat : Int) == 95) = true := by rw [h95]; rfl
       clear hd H hd2 HZ h95
       rcases q with q | q
       ·subst hx0
        go_wp2_with fail
        refine (L _).mono ?_
        rintro e w' ⟨rfl, rfl⟩
        go_wp2
        go_ret
        exact ⟨false, rfl, rfl, fun hp => by rw [HT.out] at hp ⊢; rw [HN.out hp]⟩
       ·subst hx0
        go_wp2_with fail
        refine (L _).mono ?_
        rintro e w' ⟨rfl, rfl⟩
        go_wp2
        go_ret
        exact ⟨false, rfl, rfl, fun hp => by rw [HT.out] at hp ⊢; rw [HN.out hp]⟩
     ·have k95 : ((c.toNat : Int) == 95) = false := byte_ne (d := 95) h95
      by_cases hst : st = 1
      ·have hz95 : z = 95 := by have := HZ.out; omega
       have HN : Hid (NoPre r.data.toList → uok 2 r.data.toList = false) := Lib.hid (fun hp => by rw [(H.out hp).2, hdr.out, uok_oth hd h95, if_pos hst])
       subst hz95
       clear hd H HZ hd2 h95
       rcases q with q | q
       ·subst hx0
        go_wp2_with fail
        refine (L _).mono ?_
        rintro e w' ⟨rfl, rfl⟩
        go_wp2
        go_ret
        exact ⟨false, rfl, rfl, fun hp => by rw [HT.out] at hp ⊢; rw [HN.out hp]⟩
       ·subst hx0
        go_wp2_with fail
        refine (L _).mono ?_
        rintro e w' ⟨rfl, rfl⟩
        go_wp2
        go_ret
        exact ⟨false, rfl, rfl, fun hp => by rw [HT.out] at hp ⊢; rw [HN.out hp]⟩
      ·have hz95 : (z == 95) = false := by rw [beq_eq_false_iff_ne]; have := HZ.out; omega
       have HN : Hid (HexI r.data.toList hx 2 (r.data.toList.drop (k + 1))) := Lib.hid (fun hp => ⟨(H.out hp).1, by rw [(H.out hp).2, hdr.out, uok_oth hd h95, if_neg hst]⟩)
       clear hd H HZ hd2 h95
       rcases q with q | q
       ·subst hx0
        go_wp2_with fail
        refine (L _).mono ?_
        rintro e w' ⟨rfl, rfl⟩
        go_wp2
        go_round
        case rel => exact ⟨k + 1, 2, 33, by go_num, by omega, rfl, by omega, by omega, Lib.hid (by omega), HN⟩
        case measure => simp [intOf]; omega
       ·subst hx0
        go_wp2_with fail
        refine (L _).mono ?_
        rintro e w' ⟨rfl, rfl⟩
        go_wp2
        go_round
        case rel => exact ⟨k + 1, 2, 33, by go_num, by omega, rfl, by omega, by omega, Lib.hid (by omega), HN⟩
        case measure => simp [intOf]; omega
    ·by_cases h95 : c = 95
     ·by_cases hst : st = 0
      ·have hz48 : z = 48 := by have := HZ.out; omega
       have HN : Hid (HexI r.data.toList hx 1 (r.data.toList.drop (k + 1))) := Lib.hid (fun hp => ⟨(H.out hp).1, by rw [(H.out hp).2, hdr.out, h95, uok_low, if_pos hst]⟩)
       have k95 : ((c.toNat : Int) == 95) = true := by rw [h95]; rfl
       subst hz48
       clear hd H hd2 HZ h95
       rcases q with q | q
       ·subst hx0
        go_wp2_with fail
        refine (L _).mono ?_
        rintro e w' ⟨rfl, rfl⟩
        go_wp2_with fail
        refine (L _).mono ?_
        rintro e w' ⟨rfl, rfl⟩
        go_wp2
        go_round
        case rel => exact ⟨k + 1, 1, 95, by go_num, by omega, rfl, by omega, by omega, Lib.hid (by omega), HN⟩
        case measure => simp [intOf]; omega
       ·subst hx0
        go_wp2_with fail
        refine (L _).mono ?_
        rintro e w' ⟨rfl, rfl⟩
        go_wp2_with fail
        refine (L _).mono ?_
        rintro e w' ⟨rfl, rfl⟩
        go_wp2
        go_round
        case rel => exact ⟨k + 1, 1, 95, by go_num, by omega, rfl, by omega, by omega, Lib.hid (by omega), HN⟩
        case measure => simp [intOf]; omega
      ·have hz48 : (z != 48) = true := by rw [bne_iff_ne]; have := HZ.out; omega
       have HN : Hid (NoPre r.data.toList → uok 2 r.data.toList = false) := Lib.hid (fun hp => by rw [(H.out hp).2, hdr.out, h95, uok_low, if_neg hst])
       have k95 : ((c.toNat : Int) == 95) = true := by rw [h95]; rfl
       clear hd H hd2 HZ h95
       rcases q with q | q
       ·subst hx0
        go_wp2_with fail
        refine (L _).mono ?_
        rintro e w' ⟨rfl, rfl⟩
        go_wp2_with fail
        refine (L _).mono ?_
        rintro e w' ⟨rfl, rfl⟩
        go_wp2
        go_ret
        exact ⟨false, rfl, rfl, fun hp => by rw [HT.out] at hp ⊢; rw [HN.out hp]⟩
       ·subst hx0
        go_wp2_with fail
        refine (L _).mono ?_
        rintro e w' ⟨rfl, rfl⟩
        go_wp2_with fail
        refine (L _).mono ?_
        rintro e w' ⟨rfl, rfl⟩
        go_wp2
        go_ret
        exact ⟨false, rfl, rfl, fun hp => by rw [HT.out] at hp ⊢; rw [HN.out hp]⟩
     ·have k95 : ((c.toNat : Int) == 95) = false := byte_ne (d := 95) h95
      by_cases hst : st = 1
      ·have hz95 : z = 95 := by have := HZ.out; omega
       have HN : Hid (NoPre r.data.toList → uok 2 r.data.toList = false) := Lib.hid (fun hp => by rw [(H.out hp).2, hdr.out, uok_oth hd h95, if_pos hst])
       subst hz95
       clear hd H HZ hd2 h95
       rcases q with q | q
       ·subst hx0
        go_wp2_with fail
        refine (L _).mono ?_
        rintro e w' ⟨rfl, rfl⟩
        go_wp2_with fail
        refine (L _).mono ?_
        rintro e w' ⟨rfl, rfl⟩
        go_wp2
        go_ret
        exact ⟨false, rfl, rfl, fun hp => by rw [HT.out] at hp ⊢; rw [HN.out hp]⟩
       ·subst hx0
        go_wp2_with fail
        refine (L _).mono ?_
        rintro e w' ⟨rfl, rfl⟩
        go_wp2_with fail
        refine (L _).mono ?_
        rintro e w' ⟨rfl, rfl⟩
        go_wp2
        go_ret
        exact ⟨false, rfl, rfl, fun hp => by rw [HT.out] at hp ⊢; rw [HN.out hp]⟩
      ·have hz95 : (z == 95) = false := by rw [beq_eq_false_iff_ne]; have := HZ.out; omega
       have HN : Hid (HexI r.data.toList hx 2 (r.data.toList.drop (k + 1))) := Lib.hid (fun hp => ⟨(H.out hp).1, by rw [(H.out hp).2, hdr.out, uok_oth hd h95, if_neg hst]⟩)
       clear hd H HZ hd2 h95
       rcases q with q | q
       ·subst hx0
        go_wp2_with fail
        refine (L _).mono ?_
        rintro e w' ⟨rfl, rfl⟩
        go_wp2_with fail
        refine (L _).mono ?_
        rintro e w' ⟨rfl, rfl⟩
        go_wp2
        go_round
        case rel => exact ⟨k + 1, 2, 33, by go_num, by omega, rfl, by omega, by omega, Lib.hid (by omega), HN⟩
        case measure => simp [intOf]; omega
       ·subst hx0
        go_wp2_with fail
        refine (L _).mono ?_
        rintro e w' ⟨rfl, rfl⟩
        go_wp2_with fail
        refine (L _).mono ?_
        rintro e w' ⟨rfl, rfl⟩
        go_wp2
        go_round
        case rel => exact ⟨k + 1, 2, 33, by go_num, by omega, rfl, by omega, by omega, Lib.hid (by omega), HN⟩
        case measure => simp [intOf]; omega
    ·have HN : Hid (HexI r.data.toList hx 0 (r.data.toList.drop (k + 1))) := Lib.hid (fun hp => by have := (H.out hp).1; rw [hx0] at this; cases this)
     clear hd H HZ hd2
     rcases q with q | q
     all_goals
      subst hx0
      go_wp2_with fail
      refine (L _).mono ?_
      rintro e w' ⟨rfl, rfl⟩
      go_wp2_with fail
      refine (L _).mono ?_
      rintro e w' ⟨rfl, rfl⟩
      go_wp2
      go_round
      case rel => exact ⟨k + 1, 0, 48, by go_num, by omega, rfl, by omega, by omega, Lib.hid (by omega), HN⟩
      case measure => simp [intOf]; omega
  ·have hge : (r.size : Int) ≤ (k : Int) := by omega
   have hnil : r.data.toList.drop k = [] := List.drop_eq_nil_of_le (by rw [← Lib.size_eq]; omega)
   have HN : Hid (NoPre r.data.toList → uok 2 r.data.toList = (st != 1)) := Lib.hid (fun hp => by rw [(H.out hp).2, hnil]; rfl)
   clear H hnil
   by_cases hst : st = 1
   ·have hz95 : z = 95 := by have := HZ.out; omega
    subst hz95 hst
    clear HZ
    go_wp2
    go_ret
    exact ⟨false, rfl, rfl, fun hp => by rw [HT.out] at hp ⊢; rw [HN.out hp]; rfl⟩
   ·have hz95 : (z != 95) = true := by rw [bne_iff_ne]; have := HZ.out; omega
    have HS := Lib.hid hst
    clear HZ hst
    go_wp2
    go_ret
    exact ⟨true, rfl, rfl, fun hp => by rw [HT.out] at hp ⊢; rw [HN.out hp]; symm; rw [bne_iff_ne]; exact HS.out⟩
end Go.Proofs.YtillamhoakohdaaGreatDoor
namespace Go.Proofs.YtillamhoakohdaaGreatDoor
open Go.RowKit

def mant (ds : Bs) : Nat := pre ds (min 19 ds.length)
def TrI (ds : Bs) (tr : Bool) : Prop := (tr = false → ∀ j, 19 ≤ j → dig0 ds j = 0) ∧ (tr = true → 19 < ds.length)
theorem mant_lt {ds : Bs} (h : Dig ds) {q : Nat} (hq : min 19 ds.length ≤ q) : mant ds < 10 ^ q := Nat.lt_of_lt_of_le (pre_lt h _) (Nat.pow_le_pow_right (by omega) hq)
theorem mant_bd {ds : Bs} (h : Dig ds) : mant ds < 10000000000000000000 := mant_lt h (q := 19) (by omega)
theorem mant_bd2 {ds : Bs} (h : Dig ds) (hl : ds.length < 19) : mant ds < 1000000000000000000 := mant_lt h (q := 18) (by omega)
theorem mant_short {ds : Bs} {d : UInt8} (h : ds.length < 19) : mant (ds ++ [d]) = 10 * mant ds + d.toNat := by
 have := decV_snoc ds d
 unfold decV at this
 unfold mant
 rw [List.length_append, List.length_singleton] at *
 rw [show min 19 (ds.length + 1) = ds.length + 1 by omega, show min 19 ds.length = ds.length by omega]
 exact this
theorem mant_long {ds : Bs} {d : UInt8} (h : 19 ≤ ds.length) : mant (ds ++ [d]) = mant ds := by
 unfold mant
 rw [List.length_append, List.length_singleton, show min 19 (ds.length + 1) = 19 by omega, show min 19 ds.length = 19 by omega, pre_append _ _ _ h]
theorem dig0_snoc_out {ds : Bs} {d : UInt8} {j : Nat} (h : ds.length < j) : dig0 (ds ++ [d]) j = 0 := dig0_out (by simp; omega)
theorem TrI.short {ds : Bs} {tr : Bool} (h : TrI ds tr) {d : UInt8} (hl : ds.length < 19) : TrI (ds ++ [d]) tr :=
 ⟨fun _ j hj => dig0_snoc_out (by omega), fun ht => by have := h.2 ht; omega⟩
theorem TrI.zero {ds : Bs} {tr : Bool} (h : TrI ds tr) {d : UInt8} (hd : d.toNat = 0) : TrI (ds ++ [d]) tr := by
 refine ⟨fun ht j hj => ?_, fun ht => by have := h.2 ht; simp; omega⟩
 rcases Nat.lt_trichotomy j ds.length with h1 | h1 | h1
 ·have := h.1 ht j hj
  unfold dig0 at this ⊢
  rwa [List.getElem?_append_left h1]
 ·unfold dig0
  rw [h1, List.getElem?_append_right (Nat.le_refl _), Nat.sub_self]
  exact hd
 ·exact dig0_snoc_out h1
theorem TrI.long {ds : Bs} {d : UInt8} (hl : 19 ≤ ds.length) : TrI (ds ++ [d]) true := ⟨fun h => (by cases h), fun _ => by simp; omega⟩
theorem dig_snoc {ds : Bs} (h : Dig ds) {c : UInt8} (hc : isDig c = true) : Dig (ds ++ [c - 48]) := by
 intro d hd
 have h48 := sub48 hc
 rcases List.mem_append.1 hd with h3 | h3
 ·exact h d h3
 ·rw [List.mem_singleton.1 h3, h48.1]; exact h48.2
def tailR (l : Bs) : Option (Int × Bs) :=
 match l with
 | [] => some (0, [])
 | c :: r => if c = 101 ∨ c = 69 then
   (if hd (sgn r).1 = true then some (if (sgn r).2.1 = true then -((expGo 0 (sgn r).1).1 : Int) else ((expGo 0 (sgn r).1).1 : Int), (expGo 0 (sgn r).1).2) else none)
  else some (0, c :: r)
theorem expR_tail (l : Bs) : expR l = match tailR l with | none => none | some (e, r) => if r = [] then some e else none := by
 cases l with
 | nil => rfl
 | cons c r =>
  unfold expR tailR
  by_cases h : c = 101 ∨ c = 69
  ·simp only [if_pos h]
   by_cases h2 : hd (sgn r).1 = true
   ·simp only [if_pos h2]
    by_cases h3 : (expGo 0 (sgn r).1).2 = []
    ·simp only [if_pos h3, if_pos (show hd (sgn r).1 = true ∧ (expGo 0 (sgn r).1).2 = [] from ⟨h2, h3⟩)]
    ·simp only [if_neg h3, if_neg (show ¬ (hd (sgn r).1 = true ∧ (expGo 0 (sgn r).1).2 = []) from fun h => h3 h.2)]
   ·simp only [if_neg h2, if_neg (show ¬ (hd (sgn r).1 = true ∧ (expGo 0 (sgn r).1).2 = []) from fun h => h2 h.1)]
  ·simp only [if_neg h]
   rw [if_neg (by simp)]
def HexP (t : Bs) : Prop := ∃ c r, t = 48 :: c :: r ∧ r ≠ [] ∧ (c = 120 ∨ c = 88)
def RfOk (l : Bs) (m : Nat) (e : Int) (tr : Bool) (i : Nat) : Prop :=
 ∃ (ds : Bs) (dp : Int) (r : Bs), i + r.length = l.length ∧ Dig ds ∧ (ds = [] ∨ dig0 ds 0 ≠ 0) ∧ m = mant ds ∧ TrI ds tr ∧ e = (if ds = [] then 0 else dp - (min 19 ds.length : Nat)) ∧ -200000 ≤ e ∧ e ≤ 200000 ∧
  (r = [] → readP (sgn l).1 = some (ds, dp) ∧ (NoPre (sgn l).1 → uok 2 (sgn l).1 = true)) ∧ (r ≠ [] → readP (sgn l).1 = none)
def RfPost (l : Bs) (w : World) (en : Ending) (w' : World) : Prop :=
 ∃ (m : Nat) (e : Int) (neg tr : Bool) (i : Nat) (ok : Bool), en = .returned (.tuple #[.int .u64 m, .int .i64 e, .bool neg, .bool tr, .bool false, .int .i64 i, .bool ok]) ∧ w = w' ∧ i ≤ l.length ∧
  (ok = true → neg = (sgn l).2.1 ∧ RfOk l m e tr i) ∧ (ok = false → NoPre (sgn l).1 → readP (sgn l).1 = none ∨ uok 2 (sgn l).1 = false)
theorem scan_split (t : Bs) : readP t = if (scan false false [] 0 t).1 = true then (match tailR (scan false false [] 0 t).2.2.2 with | none => none | some (e, r) => if r = [] then some ((scan false false [] 0 t).2.1, (scan false false [] 0 t).2.2.1 + e) else none) else none := by
 unfold readP
 simp only
 rw [expR_tail]
 split
 ·cases tailR (scan false false [] 0 t).2.2.2 with
  | none => rfl
  | some x =>
   obtain ⟨e, r⟩ := x
   show Option.map _ (if r = [] then some e else none) = if r = [] then _ else none
   split <;> rfl
 ·rfl
end Go.Proofs.YtillamhoakohdaaGreatDoor
namespace Go.Proofs.YtillamhoakohdaaGreatDoor

theorem lt_cross {A B A' B' c : Nat} (hB : 0 < B) (hB' : 0 < B') (h : A * B' ≤ A' * B) (k : c * B < A) : c * B' < A' := by
 have h1 : c * B * B' < A * B' := Nat.mul_lt_mul_of_pos_right k hB'
 have h2 : c * B' * B < A' * B := by rw [show c * B' * B = c * B * B' by simp only [Nat.mul_assoc, Nat.mul_comm, Nat.mul_left_comm]]; omega
 exact Nat.lt_of_mul_lt_mul_right h2
theorem le_cross {A B A' B' c : Nat} (hB : 0 < B) (h : A * B' ≤ A' * B) (k : c * B ≤ A) : c * B' ≤ A' := by
 have h1 : c * B * B' ≤ A * B' := Nat.mul_le_mul_right _ k
 have h2 : c * B' * B ≤ A' * B := by rw [show c * B' * B = c * B * B' by simp only [Nat.mul_assoc, Nat.mul_comm, Nat.mul_left_comm]]; omega
 exact Nat.le_of_mul_le_mul_right h2 hB
theorem gt_cross {A B A' B' c : Nat} (hB : 0 < B) (hB' : 0 < B') (h : A' * B ≤ A * B') (k : A < c * B) : A' < c * B' := by
 have h1 : A * B' < c * B * B' := Nat.mul_lt_mul_of_pos_right k hB'
 have h2 : A' * B < c * B' * B := by rw [show c * B' * B = c * B * B' by simp only [Nat.mul_assoc, Nat.mul_comm, Nat.mul_left_comm]]; omega
 exact Nat.lt_of_mul_lt_mul_right h2
theorem ge_cross {A B A' B' c : Nat} (hB : 0 < B) (h : A' * B ≤ A * B') (k : A ≤ c * B) : A' ≤ c * B' := by
 have h1 : A * B' ≤ c * B * B' := Nat.mul_le_mul_right _ k
 have h2 : A' * B ≤ c * B' * B := by rw [show c * B' * B = c * B * B' by simp only [Nat.mul_assoc, Nat.mul_comm, Nat.mul_left_comm]]; omega
 exact Nat.le_of_mul_le_mul_right h2 hB
theorem near_between {A1 B1 A2 B2 A B q : Nat} (h1 : 0 < B1) (h2 : 0 < B2) (h : 0 < B) (n1 : Near A1 B1 q) (n2 : Near A2 B2 q) (l1 : A1 * B ≤ A * B1) (l2 : A * B2 ≤ A2 * B) : Near A B q := by
 constructor
 ·rcases n1.1 with k | k | ⟨k, e⟩
  ·exact Or.inl k
  ·exact Or.inr (Or.inl (lt_cross h1 h l1 k))
  ·have := le_cross h1 l1 (Nat.le_of_eq k)
   rcases Nat.eq_or_lt_of_le this with h9 | h9
   ·exact Or.inr (Or.inr ⟨h9, e⟩)
   ·exact Or.inr (Or.inl h9)
 ·rcases n2.2 with k | ⟨k, e⟩
  ·exact Or.inl (gt_cross h2 h l2 k)
  ·have := ge_cross h2 l2 (Nat.le_of_eq k)
   rcases Nat.eq_or_lt_of_le this with h9 | h9
   ·exact Or.inr ⟨h9, e⟩
   ·exact Or.inl h9
theorem flt_between {neg : Bool} {d1 d2 d : Nat × Int} {x : Option Nat} (n1 : FltIs neg d1 x) (n2 : FltIs neg d2 x) (l1 : fracA d1 * fracB d ≤ fracA d * fracB d1) (l2 : fracA d * fracB d2 ≤ fracA d2 * fracB d) : FltIs neg d x := by
 cases x with
 | none => exact le_cross (fracB_pos d1) l1 n1
 | some n =>
  obtain ⟨r1, a1, b1, c1⟩ := n1
  obtain ⟨r2, a2, b2, c2⟩ := n2
  have : r1 = r2 := by omega
  subst this
  exact ⟨r1, a1, near_between (fracB_pos d1) (fracB_pos d2) (fracB_pos d) b1 b2 l1 l2, c1⟩
theorem cross_le {P1 P A1 B1 A B T Z : Nat} (hZ : 0 < Z) (e1 : P1 * (B1 * T) = A1 * Z) (e : P * (B * T) = A * Z) (h : P1 ≤ P) : A1 * B ≤ A * B1 := by
 refine Nat.le_of_mul_le_mul_right (c := Z) ?_ hZ
 have f1 : A1 * B * Z = P1 * (B1 * T * B) := by rw [show A1 * B * Z = A1 * Z * B by simp only [Nat.mul_assoc, Nat.mul_comm, Nat.mul_left_comm], ← e1]; simp only [Nat.mul_assoc]
 have f2 : A * B1 * Z = P * (B1 * T * B) := by rw [show A * B1 * Z = A * Z * B1 by simp only [Nat.mul_assoc, Nat.mul_comm, Nat.mul_left_comm], ← e]; simp only [Nat.mul_assoc, Nat.mul_comm, Nat.mul_left_comm]
 rw [f1, f2]
 exact Nat.mul_le_mul_right _ h
theorem sameDec_N {ds : Bs} {dp : Int} {d : Nat × Int} (h : SameDec ds dp d) : SameN (decV ds) (dp - ds.length) d := by
 obtain ⟨a, b, e, hab⟩ := h
 exact ⟨a, b, e, by omega⟩
theorem dig0_drop (ds : Bs) (n j : Nat) : dig0 (ds.drop n) j = dig0 ds (n + j) := by unfold dig0; rw [List.getElem?_drop]
theorem mant_split {ds : Bs} (h : Dig ds) : ∃ R, decV ds = mant ds * 10 ^ (ds.length - min 19 ds.length) + R ∧ R < 10 ^ (ds.length - min 19 ds.length) ∧ ((∀ j, 19 ≤ j → dig0 ds j = 0) → R = 0) := by
 refine ⟨decV (ds.drop (min 19 ds.length)), decV_split ds _ (Nat.min_le_right _ _), ?_, ?_⟩
 ·have := decV_lt (h.drop (min 19 ds.length))
  rwa [List.length_drop] at this
 ·intro hz
  have key : ∀ i, pre (ds.drop (min 19 ds.length)) i = 0 := by
   intro i
   induction i with
   | zero => rfl
   | succ i ih =>
    rw [pre, ih, dig0_drop]
    rcases Nat.lt_or_ge ds.length 19 with h1 | h1
    ·rw [dig0_out (by omega)]
    ·rw [show min 19 ds.length = 19 by omega, hz _ (by omega)]
  exact key _
theorem mant_cross {ds : Bs} {dp : Int} {d : Nat × Int} (h : SameDec ds dp d) (hd : Dig ds) :
  (fracA (mant ds, dp - (min 19 ds.length : Nat)) * fracB d ≤ fracA d * fracB (mant ds, dp - (min 19 ds.length : Nat))) ∧
  (fracA d * fracB (mant ds + 1, dp - (min 19 ds.length : Nat)) ≤ fracA (mant ds + 1, dp - (min 19 ds.length : Nat)) * fracB d) ∧
  ((∀ j, 19 ≤ j → dig0 ds j = 0) → fracA d * fracB (mant ds, dp - (min 19 ds.length : Nat)) ≤ fracA (mant ds, dp - (min 19 ds.length : Nat)) * fracB d) := by
 obtain ⟨R, e, hR, hz⟩ := mant_split hd
 generalize hq : min 19 ds.length = q at *
 generalize mant ds = m at *
 have hql : q ≤ ds.length := by omega
 obtain ⟨K, hK⟩ : ∃ K : Nat, 0 ≤ (K : Int) + (dp - ds.length) := ⟨((ds.length : Int) - dp).toNat, by omega⟩
 obtain ⟨y, hy⟩ : ∃ y : Nat, (y : Int) = (K : Int) + (dp - ds.length) := ⟨((K : Int) + (dp - ds.length)).toNat, by omega⟩
 have s0 := sameN_frac (K := K) (sameDec_N h) hK
 rw [show ((K : Int) + (dp - ds.length)).toNat = y by omega] at s0
 have s1 := sameN_frac (K := K) (sameN_self m (dp - (q : Int))) (by omega)
 have s2 := sameN_frac (K := K) (sameN_self (m + 1) (dp - (q : Int))) (by omega)
 rw [show ((K : Int) + (dp - (q : Int))).toNat = ds.length - q + y by omega, Nat.pow_add, ← Nat.mul_assoc m] at s1
 rw [show ((K : Int) + (dp - (q : Int))).toNat = ds.length - q + y by omega, Nat.pow_add, ← Nat.mul_assoc (m + 1)] at s2
 have hZ : 0 < 10 ^ K := Nat.pow_pos (by omega)
 generalize 2 ^ 1075 = T at s0 s1 s2
 refine ⟨cross_le hZ s1 s0 (Nat.mul_le_mul_right _ (by omega)), cross_le hZ s0 s2 (Nat.mul_le_mul_right _ ?_), fun h0 => cross_le hZ s0 s1 (Nat.mul_le_mul_right _ ?_)⟩
 ·rw [Nat.add_mul, Nat.one_mul]; omega
 ·have := hz h0; omega

def AtIs (neg : Bool) (ds : Bs) (dp : Int) (n : Nat) (err : Value) : Prop := ∀ d, SameDec ds dp d → (err = .nilIface ∧ FltIs neg d (some n)) ∨ (err ≠ .nilIface ∧ FltIs neg d none)
set_option exponentiation.threshold 6000 in
theorem at_zero (neg : Bool) (dp : Int) : AtIs neg [] dp (sgnW neg) .nilIface := by
 intro d h
 refine Or.inl ⟨rfl, 0, by decide, ?_, rfl⟩
 obtain ⟨x, y, h, _⟩ := h
 have h0 : d.1 = 0 := by
  rw [show decV ([] : Bs) = 0 from rfl, Nat.zero_mul] at h
  rcases Nat.mul_eq_zero.1 h.symm with h | h
  ·exact h
  ·exact absurd h (Nat.ne_of_gt (Nat.pow_pos (by omega)))
 have hA : fracA d = 0 := by unfold fracA; rw [h0]; simp
 rw [hA]
 exact ⟨Or.inl rfl, Or.inl (Nat.mul_pos (by decide) (fracB_pos d))⟩
theorem trim_cons {ds : Bs} (hd : Dig ds) (h : dig0 ds 0 ≠ 0) : trimR ds ≠ [] := fun e => by have := (Canon.trim hd h).pos; rw [e] at this; simp at this
theorem at_large {neg : Bool} {ds : Bs} {dp : Int} {n : Nat} {err : Value} (he : err ≠ .nilIface) (hd : Dig ds) (h0 : dig0 ds 0 ≠ 0) (h : 310 < dp) : AtIs neg ds dp n err := by
 intro d hs
 have hc := Canon.trim hd h0
 have h1 := same_trim hs
 rw [if_neg (trim_cons hd h0)] at h1
 exact Or.inr ⟨he, flt_large neg h1 hc h⟩
theorem c324 : 2 ^ 1075 < 10 ^ 324 := by decide +kernel
set_option exponentiation.threshold 6000 in
theorem at_small {neg : Bool} {ds : Bs} {dp : Int} (hd : Dig ds) (hdp : dp ≤ -324) : AtIs neg ds dp (sgnW neg) .nilIface := by
 intro d h
 refine Or.inl ⟨rfl, 0, by decide, ?_, rfl⟩
 obtain ⟨K, hK⟩ : ∃ K : Nat, (K : Int) = ds.length - dp := ⟨((ds.length : Int) - dp).toNat, by omega⟩
 have e := same_frac (K := K) h (by omega)
 have h1 := ival_lt (K := K) (dp := dp) hd (by omega)
 have h2 : 10 ^ ((K : Int) + dp).toNat * 10 ^ 324 ≤ 10 ^ K := by rw [← Nat.pow_add]; exact Nat.pow_le_pow_right (by omega) (by omega)
 have hB := fracB_pos d
 refine ⟨Or.inl rfl, Or.inl ?_⟩
 rw [show (rungU 0 + rungU (0 + 1)) = 1 by decide, Nat.one_mul]
 refine Nat.lt_of_mul_lt_mul_right (a := 10 ^ K) ?_
 rw [← e]
 have h3 : ival K ds dp * 2 ^ 1075 < 10 ^ K := by
  refine Nat.lt_of_lt_of_le ?_ h2
  exact Nat.lt_of_le_of_lt (Nat.mul_le_mul_left _ (Nat.le_of_lt c324)) (Nat.mul_lt_mul_of_pos_right h1 (Nat.pow_pos (by omega)))
 rw [Nat.mul_left_comm]
 exact Nat.mul_lt_mul_of_pos_left h3 hB
theorem at_whole {neg : Bool} {ds : Bs} {dp : Int} {n : Nat} {err : Value} (hd : Dig ds) (ht : TrI ds false)
  (h : (err = .nilIface ∧ FltIs neg (mant ds, dp - (min 19 ds.length : Nat)) (some n)) ∨ (err ≠ .nilIface ∧ FltIs neg (mant ds, dp - (min 19 ds.length : Nat)) none)) : AtIs neg ds dp n err := by
 intro d hs
 obtain ⟨c1, _, c3⟩ := mant_cross hs hd
 have c3 := c3 (ht.1 rfl)
 exact h.imp (fun h => ⟨h.1, flt_between h.2 h.2 c1 c3⟩) (fun h => ⟨h.1, flt_between h.2 h.2 c1 c3⟩)
theorem at_both {neg : Bool} {ds : Bs} {dp : Int} {n : Nat} {err err' : Value} (hd : Dig ds)
  (h : (err = .nilIface ∧ FltIs neg (mant ds, dp - (min 19 ds.length : Nat)) (some n)) ∨ (err ≠ .nilIface ∧ FltIs neg (mant ds, dp - (min 19 ds.length : Nat)) none))
  (h' : (err' = .nilIface ∧ FltIs neg (mant ds + 1, dp - (min 19 ds.length : Nat)) (some n)) ∨ (err' ≠ .nilIface ∧ FltIs neg (mant ds + 1, dp - (min 19 ds.length : Nat)) none))
  (hx : err = .nilIface → err' = .nilIface) : AtIs neg ds dp n err := by
 intro d hs
 obtain ⟨c1, c2, _⟩ := mant_cross hs hd
 rcases h with ⟨e, h⟩ | ⟨e, h⟩
 ·rcases h' with ⟨e', h'⟩ | ⟨e', h'⟩
  ·exact Or.inl ⟨e, flt_between h h' c1 c2⟩
  ·exact absurd (hx e) e'
 ·exact Or.inr ⟨e, le_cross (fracB_pos _) c1 h⟩
theorem order_inf (neg : Bool) : Ieee.double.read (Ieee.double.word neg infR) = .infinity neg := by cases neg <;> decide +kernel
theorem order_eq {neg : Bool} {q r : Nat} (hq : q ≤ infR) (hr : r ≤ infR) (h : (Ieee.double.order (Ieee.double.word neg q) (Ieee.double.word neg r) == some .eq) = true) : q = r := by
 unfold Ieee.Format.order at h
 rcases Nat.lt_or_ge q infR with hq1 | hq1
 ·obtain ⟨m, i, e1, i1, v1⟩ := read_rung neg q hq1
  rw [e1] at h
  rcases Nat.lt_or_ge r infR with hr1 | hr1
  ·obtain ⟨n, j, e2, j1, v2⟩ := read_rung neg r hr1
   rw [e2] at h
   simp only [Ieee.Datum.order, Ieee.signed, Nat.shiftLeft_eq] at h
   obtain ⟨a, ha⟩ : ∃ a : Nat, min i j = (a : Int) - 1074 := ⟨(min i j + 1074).toNat, by omega⟩
   rw [ha] at h
   have h1 : m * 2 ^ (i - ((a : Int) - 1074)).toNat * 2 ^ a = rungU q := by rw [Nat.mul_assoc, ← Nat.pow_add, ← v1]; congr 2; omega
   have h2 : n * 2 ^ (j - ((a : Int) - 1074)).toNat * 2 ^ a = rungU r := by rw [Nat.mul_assoc, ← Nat.pow_add, ← v2]; congr 2; omega
   generalize m * 2 ^ (i - ((a : Int) - 1074)).toNat = M at *
   generalize n * 2 ^ (j - ((a : Int) - 1074)).toNat = N at *
   refine rungU_inj ?_
   rw [← h1, ← h2]
   congr 1
   have h3 := eq_of_beq h
   simp only [Option.some.injEq] at h3
   rw [Std.compare_eq_iff_eq] at h3
   cases neg <;> simp at h3 <;> omega
  ·obtain rfl : r = infR := by omega
   rw [order_inf] at h
   cases neg <;> simp [Ieee.Datum.order] at h
 ·obtain rfl : q = infR := by omega
  rw [order_inf] at h
  rcases Nat.lt_or_ge r infR with hr1 | hr1
  ·obtain ⟨n, j, e2, j1, v2⟩ := read_rung neg r hr1
   rw [e2] at h
   cases neg <;> simp [Ieee.Datum.order] at h
  ·omega
theorem fastR_is2 {neg : Bool} {d : Nat} {p : Int} (d0 : 0 < d) (d1 : d < 2 ^ 64) (p1 : -345 ≤ p) (p2 : p ≤ 310) :
  ∃ n err, fastR neg d p = .tuple #[.float .f64 n, err] ∧ ((err = .nilIface ∧ FltIs neg (d, p) (some n)) ∨ (err = .iface 175 (.int .i64 1) ∧ FltIs neg (d, p) none ∧ n = sgnW neg + infR)) := by
 obtain ⟨n, err, h, h2⟩ := fastR_is (neg := neg) d0 d1 p1 p2
 refine ⟨n, err, h, h2.imp_right fun h3 => ⟨h3.1, h3.2, ?_⟩⟩
 have he := h3.1
 subst he
 unfold fastR at h
 split at h
 ·simp at h
 ·unfold packR at h
  split at h
  ·simp at h
  ·split at h
   ·simp at h; exact h.symm
   ·simp at h
def FastC (neg : Bool) (d : Nat) (p : Int) (n : Nat) (err : Value) : Prop := (err = .nilIface ∧ FltIs neg (d, p) (some n)) ∨ (err = .iface 175 (.int .i64 1) ∧ FltIs neg (d, p) none ∧ n = sgnW neg + infR)
theorem FastC.rung {neg : Bool} {d : Nat} {p : Int} {n : Nat} {err : Value} (h : FastC neg d p n err) : ∃ r, r ≤ infR ∧ n = sgnW neg + r ∧ (err = .nilIface → r < infR) ∧ (err ≠ .nilIface → r = infR) := by
 rcases h with ⟨a, r, h1, _, h2⟩ | ⟨a, _, h2⟩
 ·exact ⟨r, Nat.le_of_lt h1, h2, fun _ => h1, fun h => absurd a h⟩
 ·exact ⟨infR, Nat.le_refl _, h2, fun h => (by rw [a] at h; cases h), fun _ => rfl⟩
theorem FastC.or {neg : Bool} {d : Nat} {p : Int} {n : Nat} {err : Value} (h : FastC neg d p n err) : (err = .nilIface ∧ FltIs neg (d, p) (some n)) ∨ (err ≠ .nilIface ∧ FltIs neg (d, p) none) := by
 rcases h with ⟨a, b⟩ | ⟨a, b, _⟩
 ·exact Or.inl ⟨a, b⟩
 ·exact Or.inr ⟨(by rw [a]; intro h; cases h), b⟩
theorem at_eq {neg : Bool} {ds : Bs} {dp : Int} {n1 n2 : Nat} {err1 err2 : Value} (hd : Dig ds) (h1 : FastC neg (mant ds) (dp - (min 19 ds.length : Nat)) n1 err1) (h2 : FastC neg (mant ds + 1) (dp - (min 19 ds.length : Nat)) n2 err2)
  (h : (FloatKind.f64.format.order n1 n2 == some Ordering.eq) = true) : AtIs neg ds dp n1 err1 := by
 obtain ⟨r1, a1, b1, c1, d1⟩ := h1.rung
 obtain ⟨r2, a2, b2, c2, d2⟩ := h2.rung
 have e : r1 = r2 := order_eq (neg := neg) a1 a2 (by rw [word_sgn, word_sgn, ← b1, ← b2]; exact h)
 have en : n2 = n1 := by rw [b1, b2, e]
 refine at_both hd h1.or (err' := err2) (by have := h2.or; rw [en] at this; exact this) (fun hn => ?_)
 apply Classical.byContradiction
 intro h9
 have := c1 hn
 have := d2 h9
 omega
end Go.Proofs.YtillamhoakohdaaGreatDoor
