/-
  Walks: the light decimal's double. Walks: the light decimal's shift. Walks: the light decimal's bits.
-/
import Derived.Test.YtillamhoakohdaaGreatDoorM01
import Derived.Test.YtillamhoakohdaaGreatDoorM17
import Derived.Test.YtillamhoakohdaaGreatDoorM20
set_option linter.unusedVariables false
set_option linter.unusedSimpArgs false
namespace Go.Proofs.YtillamhoakohdaaGreatDoor
open Go.RowKit
attribute [local go_sem] setCell_drewN

theorem own_len {base n cap : Nat} {p : Option Addr} {l : Bs} {w : World} (h : OwnB base w (.slice p n cap) l) : n = l.length := by
 rcases h.2 with ⟨h1, h2⟩ | ⟨g, cap, cur, h1, _⟩
 ·simp only [Value.slice.injEq] at h1; omega
 ·simp only [Value.slice.injEq] at h1; omega
theorem own_cellN {base g n cap : Nat} {l : Bs} {w : World} (h : OwnB base w (.slice (some ⟨g, 0, none⟩) n cap) l) (i : Nat) (hi : i < n) : w.cell? ⟨g, i, none⟩ = some (.int .u8 (dig0 l i : Int)) := by
 obtain rfl := own_len h
 exact own_cell' h i hi
theorem own_frozN {base g n cap : Nat} {l : Bs} {w : World} (h : OwnB base w (.slice (some ⟨g, 0, none⟩) n cap) l) (i : Nat) : w.frozen? ⟨g, i, none⟩ = false := by
 obtain rfl := own_len h
 exact World.ownsRow.frozenAt h i
theorem own_set {base g n cap : Nat} {l : Bs} {w : World} (h : OwnB base w (.slice (some ⟨g, 0, none⟩) n cap) l) (i : Nat) (d : UInt8) (x : Int) (hx : x = (d.toNat : Int)) :
  OwnB base (w.setCell ⟨g, i, none⟩ (.int .u8 x)) (.slice (some ⟨g, 0, none⟩) n cap) (l.set i d) := by
 obtain rfl := own_len h
 subst hx
 have := (World.ownsRow.stored h i (.int .u8 (d.toNat : Int))).1
 unfold OwnB
 rw [List.length_set]
 have e : u8s (l.set i d) = (u8s l).set i (.int .u8 (d.toNat : Int)) := by unfold u8s; rw [List.map_set]
 rw [e]
 exact this
theorem own_setOther {base b o : Nat} {v x : Value} {l : Bs} {w : World} (h : OwnB base w v l) (hne : v.ownBlock ≠ some b) : OwnB base (w.setCell ⟨b, o, none⟩ x) v l := by
 refine ⟨h.1, ?_⟩
 rcases h.2 with h1 | ⟨g, cap, cur, rfl, h2, h3, h4⟩
 ·exact .inl h1
 ·exact .inr ⟨g, cap, cur, rfl, h2, (heap_setCell_other _ ⟨b, o, none⟩ g _ (by intro e; apply hne; simp at e; simp [Value.ownBlock, e])).trans h3, h4⟩
theorem dig0_some {l : Bs} {i : Nat} (hi : i < l.length) : ∃ c, l[i]? = some c ∧ (dig0 l i : Int) = (c.toNat : Int) := ⟨l[i], List.getElem?_eq_getElem hi, by rw [dig0_at hi]⟩
theorem DecAt.belowB {base a B : Nat} {v : Value} {ds : Bs} {dp : Int} {w w' : World} (h : DecAt base a v ds dp w) (hb : Below B w w') (ha : a < B) (hv : ∀ k, v.ownBlock = some k → k < B) : DecAt base a v ds dp w' :=
 ⟨(hb.block a ha).trans h.row, own_below h.own hb hv, h.ne, h.ha⟩
def DoublePost (base a : Nat) (k : Nat) (ds : Bs) (dp : Int) (w : World) (e : Ending) (w' : World) : Prop :=
 e = .returned (.tuple #[]) ∧ Fr a w w' ∧ w.heap.size ≤ w'.heap.size ∧ ∃ v' ds' dp', DecAt base a v' ds' dp' w' ∧ Doubled k ds dp ds' dp'

set_option maxRecDepth 100000 in
set_option maxHeartbeats 4000000 in
theorem double_any (base a : Nat) (v : Value) (ds : Bs) (dp : Int) (w : World) (hd : DecAt base a v ds dp w) (hl : ds.length ≤ 100000) (hdp : dp ≤ 100000) (hdp2 : -100000 ≤ dp) (k : Nat) (hk : k ≤ 59) (hk1 : 1 ≤ k)
  (hcan : Canon ds) :
  Calls Tryz.prog 104 #[.pointer (some ⟨a, 0, none⟩), .int .i64 k] w (DoublePost base a k ds dp w) := by
 have hD := hcan.dig
 have h0 := hcan.head
 have hlen := hcan.pos
 clear hcan
 have c0 := hd.c0
 have hdw := hd
 obtain ⟨⟨p, cap, rfl⟩, hsh⟩ := own_shape hd.own
 obtain ⟨g, cap', e, hg1, hg2, hg3, hg4⟩ := hsh (by intro e; subst e; simp at hlen)
 simp only [Value.slice.injEq, true_and] at e
 obtain ⟨rfl, rfl⟩ := e
 have hpk : 2 ^ k ≤ 2 ^ 59 := Nat.pow_le_pow_right (by omega) hk
 have hpk0 : 0 < 2 ^ k := Nat.pow_pos (by omega)
 have hcs : ∀ i (hi : i < ds.length), w.cell? ⟨g, i, none⟩ = some (.int .u8 (dig0 ds i : Int)) := fun i hi => own_cell' hd.own i hi
 go_enter Tryz.func104, Tryz.ntmps104
 go_upto_region 3 with fail
 go_loopw [4, 5, 6] (fun n v i wr => ∃ (q nn : Nat) (o : Bs), i = .int .i64 ((ds.length : Int) - 1 - q) ∧ n = .int .u64 nn ∧ q ≤ ds.length + 20 ∧ nn < 2 ^ k ∧ Hid (OwnB w.heap.size wr v o) ∧ Hid (Below w.heap.size w wr) ∧ Hid (DblInv k ds q nn o)) (fun _ _ i _ => (22 + intOf i).toNat)
 case atStart => exact ⟨0, 0, [], by simp, rfl, by omega, hpk0, Lib.hid (OwnB.nil _ _), Lib.hid (Below.refl _ _), Lib.hid ⟨by simp [decV, pre, sfx], by simp [Dig], rfl, fun h => absurd h (by omega)⟩⟩
 case round =>
  obtain ⟨q, nn, o, rfl, rfl, hq, hnn, HO, HB, H⟩ := hrel
  have c0' := ((bcell HB.out).1 a 0 hdw.lt).trans c0
  have hol : o.length = q := H.out.2.2.1
  replace hol := Lib.hid hol
  by_cases hlt : q < ds.length
  ·have i1 : (0 : Int) ≤ (ds.length : Int) - 1 - q := by omega
   have i2 : (ds.length : Int) - 1 - q < ds.length := by omega
   have i3 : ((ds.length : Int) - 1 - q).toNat = ds.length - 1 - q := by omega
   have hc := (((bcell HB.out).1 g (ds.length - 1 - q) (by omega)).trans (hcs (ds.length - 1 - q) (by omega)))
   have hdq := dig0_lt hD (ds.length - 1 - q)
   generalize hdj : dig0 ds (ds.length - 1 - q) = dj at *
   obtain ⟨x, hx⟩ : ∃ x : Nat, x = nn + dj * 2 ^ k := ⟨_, rfl⟩
   have hdk : dj * 2 ^ k ≤ 9 * 2 ^ k := Nat.mul_le_mul_right _ (by omega)
   have hw : IntKind.u64.wrap ((nn : Int) + IntKind.u64.wrap ((dj : Int) * 2 ^ k)) = (x : Int) := by
    have e : ((dj : Int) * 2 ^ k) = ((dj * 2 ^ k : Nat) : Int) := by simp
    rw [e, wrap64 ((dj * 2 ^ k : Nat) : Int) (by omega) (by omega), wrap64 _ (by omega) (by omega), hx]; omega
   have hxb : x < 10 * 2 ^ k := by omega
   obtain ⟨d, hdd⟩ : ∃ d : UInt8, d.toNat = x % 10 := ⟨UInt8.ofNat (x % 10), by rw [UInt8.toNat_ofNat']; omega⟩
   have st := dbl_step h0 H.out hnn x (by rw [if_pos hlt, hdj]; exact hx) (fun h => by omega) hlen hD hdd
   have ST := Lib.hid st.1
   have st2 := st.2
   have HDD : Hid ((x : Int) % 10 = (d.toNat : Int)) := Lib.hid (by omega)
   have hbx : x / 10 < 2 ^ 59 := by omega
   clear st hdd hx hdj H
   go_upto_region 7 with fail
   try rw [hw]
   clear hw hc hdk
   go_wp2_with (at_builtin; refine append_num (w0 := w) w.heap.size rfl (.tmp 37) (.tmp 41) rfl _ o _ _ HDD.out rfl rfl HO.out HB.out HB.out.size (by have := hol.out; omega) ?_)
   intro v1 w1 hown hb1 hgr
   have HO1 := Lib.hid hown
   have HB1 := Lib.hid hb1
   clear hown hb1 hgr
   go_wp2
   go_roundw
   case rel => exact ⟨q + 1, x / 10, o ++ [d], by go_num, by go_num, by omega, st2, HO1, HB1, ST⟩
   case measure => simp [intOf]; omega
  ·by_cases hn0 : nn = 0
   ·subst hn0
    have hqb : q ≤ ds.length + 20 := hq
    have hqb0 : ds.length ≤ q := by omega
    have ho0 : o ≠ [] := by intro e; have := hol.out; rw [e] at this; simp at this; omega
    obtain ⟨_, hsh2⟩ := own_shape HO.out
    obtain ⟨g2, co, hpo, hg21, hg22, hg23, hg24⟩ := hsh2 ho0
    subst hpo
    have hoq := hol.out
    rw [hoq] at HO ⊢
    have hd2 : DecAt base a _ ds dp wr := hdw.below HB.out
    have c1' := hd2.c1
    have f1' := hd2.f1
    have hu : Hid (Fr a w wr) := Lib.hid (fr_then (Fr.refl _ _) HB.out (Nat.le_refl _))
    have hlt' : (ds.length : Int) ≤ q := by omega
    have i0 : (ds.length : Int) - 1 - q < 0 := by omega
    unfold maxLen at hg4
    clear hsh hsh2 hg23 hg24
    go_upto_region 9 with fail
    go_region
    have hd3 : DecAt base a _ ds (dp + ((q : Int) - ds.length)) ((wr.setCell ⟨a, 1, none⟩ (.int .i64 (dp + ((q : Int) - ds.length)))).drew) := (hd2.setDp (dp + ((q : Int) - ds.length))).drew 1
    have hu3 : Hid (Fr a w ((wr.setCell ⟨a, 1, none⟩ (.int .i64 (dp + ((q : Int) - ds.length)))).drew)) := Lib.hid (fr_drew (fr_set hu.out) 1)
    have hga : g2 ≠ a := by have := hdw.lt; omega
    have HO2 : Hid (OwnB w.heap.size ((wr.setCell ⟨a, 1, none⟩ (.int .i64 (dp + ((q : Int) - ds.length)))).drew) (.slice (some ⟨g2, 0, none⟩) q co) o) := Lib.hid (own_setOther HO.out (by simp [Value.ownBlock, hga]))
    have hsz : w.heap.size ≤ ((wr.setCell ⟨a, 1, none⟩ (.int .i64 (dp + ((q : Int) - ds.length)))).drew).heap.size := by have := HB.out.size; simp; omega
    clear hd2 c1' f1' hu HO HB c0'
    generalize (wr.setCell ⟨a, 1, none⟩ (.int .i64 (dp + ((q : Int) - ds.length)))).drew = W2 at *
    clear hol
    replace hoq := Lib.hid hoq
    go_upto_region 11 with fail
    go_loopw [7, 8] (fun i j wc => ∃ (t : Nat) (l : Bs), i = .int .i64 t ∧ j = .int .i64 ((q : Int) - 1 - t) ∧ 2 * t ≤ q ∧ Hid (Turned o l t) ∧ Hid (OwnB w.heap.size wc (.slice (some ⟨g2, 0, none⟩) q co) l) ∧ Hid (Below w.heap.size W2 wc)) (fun i _ _ => q - (intOf i).toNat)
    case atStart => exact ⟨0, o, rfl, by go_num, by omega, Lib.hid (turned_start o), HO2, Lib.hid (Below.refl _ _)⟩
    case round =>
     obtain ⟨t, l, rfl, rfl, ht, HT, HL, HB2⟩ := hrel
     have hll : l.length = q := HT.out.1.trans hoq.out
     by_cases hlt2 : 2 * t + 1 < q
     ·obtain ⟨c1, e1, d1⟩ := dig0_some (l := l) (i := t) (by omega)
      obtain ⟨c2, e2, d2⟩ := dig0_some (l := l) (i := q - 1 - t) (by omega)
      have r1 := own_cellN HL.out t (by omega)
      have r2 := own_cellN HL.out (q - 1 - t) (by omega)
      have z1 := own_frozN HL.out t
      have z2 := own_frozN HL.out (q - 1 - t)
      have stp := turned_step HT.out (by have := hoq.out; omega) c2 c1 (by rw [hoq.out]; exact e2) e1
      rw [hoq.out] at stp
      have HS := Lib.hid stp
      have hset := own_set (own_set HL.out t c2 _ d2) (q - 1 - t) c1 _ d1
      clear stp e1 e2 hll
      generalize dig0 l t = x1 at *
      generalize dig0 l (q - 1 - t) = x2 at *
      have j1 : (t : Int) < (q : Int) - 1 - t := by omega
      have j2 : (t : Int) < (q : Int) := by omega
      have j3 : (0 : Int) ≤ (t : Int) := by omega
      have j4 : (0 : Int) ≤ (q : Int) - 1 - t := by omega
      have j5 : (q : Int) - 1 - t < (q : Int) := by omega
      have j6 : ((q : Int) - 1 - t).toNat = q - 1 - t := by omega
      go_upto_region 13 with fail
      go_region
      rw [d1, d2] at hset
      go_wp2
      go_roundw
      case rel => exact ⟨t + 1, _, by go_num, by go_num, by omega, HS, Lib.hid hset, Lib.hid (below_drewN (below_setCell (below_setCell HB2.out hg21 _) hg21 _) 1)⟩
      case measure => simp [intOf]; omega
     ·have hl2 := turned_end HT.out (by have := hoq.out; omega)
      subst hl2
      have hd4 := hd3.belowB HB2.out hdw.lt (own_lt hdw.own)
      have f0' := hd4.f0
      have c0' := hd4.c0
      have hob : OwnB base _ (.slice (some ⟨g2, 0, none⟩) q co) o.reverse := own_mono HL.out (by have := hdw.lt; have := hdw.ha; omega)
      have hne : (Value.slice (some ⟨g2, 0, none⟩) q co).ownBlock ≠ some a := by simp [Value.ownBlock, hga]
      have hd5 := hd4.setD hob hne
      have hbb : Hid (Fr a w (wr.setCell ⟨a, 0, none⟩ (.slice (some ⟨g2, 0, none⟩) q co))) := Lib.hid (fr_set (fr_then hu3.out HB2.out (Nat.le_refl _)))
      have hsz2 : w.heap.size ≤ (wr.setCell ⟨a, 0, none⟩ (.slice (some ⟨g2, 0, none⟩) q co)).heap.size := by have := HB2.out.size; simp; omega
      have hh := doubled_of (dp := dp) hqb0 H.out
      clear H HT HL
      have j1 : (q : Int) - 1 - t ≤ (t : Int) := by omega
      go_wp2_with fail
      refine (trim_any base a _ o.reverse _ _ hd5).mono ?_
      rintro e w' ⟨rfl, hb4, hs4, v', hd6⟩
      rw [if_neg (by intro e; have := hh.canon.pos; rw [e] at this; simp at this)] at hd6
      go_wp2
      go_end0
      exact ⟨rfl, hbb.out.trans hb4, by omega, _, _, _, hd6, hh⟩
   ·have i0 : (ds.length : Int) - 1 - q < 0 := by omega
    have i2 : (0 : Int) < (nn : Int) := by omega
    have hq20 : q ≤ ds.length + 19 := by
     rcases Nat.lt_or_ge (ds.length + 19) q with h | h
     ·exfalso
      have h1 := (H.out.2.2.2 (by omega)).1
      have h2 := Nat.pow_le_pow_right (show 0 < 10 by omega) (show 20 ≤ q - ds.length by omega)
      have h3 : 1 * 10 ^ 20 ≤ nn * 10 ^ (q - ds.length) := Nat.mul_le_mul (by omega) h2
      omega
     ·exact h
    obtain ⟨d, hdd⟩ : ∃ d : UInt8, d.toNat = nn % 10 := ⟨UInt8.ofNat (nn % 10), by rw [UInt8.toNat_ofNat']; omega⟩
    have st := dbl_step h0 H.out hnn nn (by rw [if_neg hlt]; rfl) (fun h => by omega) hlen hD hdd
    have ST := Lib.hid st.1
    have st2 := st.2
    have HDD : Hid ((nn : Int) % 10 = (d.toNat : Int)) := Lib.hid (by omega)
    clear st hdd H
    go_upto_region 7 with fail
    go_wp2_with (at_builtin; refine append_num (w0 := w) w.heap.size rfl (.tmp 37) (.tmp 41) rfl _ o _ _ HDD.out rfl rfl HO.out HB.out HB.out.size (by have := hol.out; omega) ?_)
    intro v1 w1 hown hb1 hgr
    have HO1 := Lib.hid hown
    have HB1 := Lib.hid hb1
    clear hown hb1 hgr
    go_wp2
    go_roundw
    case rel => exact ⟨q + 1, nn / 10, o ++ [d], by go_num, by go_num, by omega, st2, HO1, HB1, ST⟩
    case measure => simp [intOf]; omega
end Go.Proofs.YtillamhoakohdaaGreatDoor
namespace Go.Proofs.YtillamhoakohdaaGreatDoor
open Go.RowKit
attribute [local go_sem] setCell_drewN

set_option maxHeartbeats 4000000 in
theorem shift_up (base a : Nat) (v : Value) (ds : Bs) (dp : Int) (w : World) (hd : DecAt base a v ds dp w) (hl : ds.length ≤ 100000) (hdp : dp ≤ 100000) (hdp2 : -100000 ≤ dp) (k : Nat) (hk : k ≤ 59) (hk1 : 1 ≤ k) (hcan : Canon ds) :
  Calls Tryz.prog 101 #[.pointer (some ⟨a, 0, none⟩), .int .i64 k] w (DoublePost base a k ds dp w) := by
 go_enter Tryz.func101, Tryz.ntmps101
 go_upto_region 0 with fail
 go_loopw [1] (fun i wr => i = .int .i64 k ∧ wr = w) (fun _ _ => 0)
 case atStart => exact ⟨rfl, rfl⟩
 case round =>
  obtain ⟨rfl, rfl⟩ := hrel
  have i1 : (k : Int) ≤ 59 := by omega
  have i2 : (1 : Int) ≤ k := by omega
  go_upto_region 3 with fail
  go_loopw [1] (fun i wc => i = .int .i64 k ∧ wc = wr) (fun _ _ => 0)
  case atStart => exact ⟨rfl, rfl⟩
  case round =>
   obtain ⟨rfl, rfl⟩ := hrel
   go_wp2_with fail
   refine (double_any base a v ds dp _ hd hl hdp hdp2 k hk hk1 hcan).mono ?_
   rintro e w' ⟨rfl, h1, h2, h3⟩
   go_wp2
   go_end0
   exact ⟨rfl, h1, h2, h3⟩

set_option maxHeartbeats 4000000 in
theorem shift_down (base a : Nat) (v : Value) (ds : Bs) (dp : Int) (w : World) (hd : DecAt base a v ds dp w) (hl : ds.length ≤ 50000) (hdp : dp ≤ 50000) (hdp2 : -50000 ≤ dp) (k : Nat) (hk : k ≤ 5000) (hk1 : 1 ≤ k) (hcan : Canon ds) :
  Calls Tryz.prog 101 #[.pointer (some ⟨a, 0, none⟩), .int .i64 (-(k : Int))] w (HalfPost base a k ds dp w) := by
 go_enter Tryz.func101, Tryz.ntmps101
 go_upto_region 0 with fail
 go_loopw [1] (fun i wr => i = .int .i64 (-(k : Int)) ∧ wr = w) (fun _ _ => 0)
 case atStart => exact ⟨rfl, rfl⟩
 case round =>
  obtain ⟨rfl, rfl⟩ := hrel
  have i2 : (1 : Int) ≤ k := by omega
  have i3 : (k : Int) ≤ 5000 := by omega
  go_upto_region 3 with fail
  go_loopw [1] (fun i wc => ∃ (c r : Nat) (v' : Value) (ds' : Bs) (dp' : Int), i = .int .i64 (-(r : Int)) ∧ c + r = k ∧ 1 ≤ r ∧ Hid (DecAt base a v' ds' dp' wc ∧ Fr a wr wc ∧ wr.heap.size ≤ wc.heap.size ∧ Halved c ds dp ds' dp')) (fun i _ => (-(intOf i)).toNat)
  case atStart => exact ⟨0, k, v, ds, dp, rfl, by omega, hk1, Lib.hid ⟨hd, Fr.refl _ _, Nat.le_refl _, Halved.refl hcan⟩⟩
  case round =>
   obtain ⟨c, r, v', ds', dp', rfl, hcr, hr, H⟩ := hrel
   have hd' := H.out.1
   have hH := H.out.2.2.2
   have b1 := hH.pt hcan
   have b2 := hH.frac
   have hr5 : (r : Int) ≤ 5000 := by omega
   by_cases hgt : 59 < r
   ·have j1 : (59 : Int) < r := by omega
    have hc2 := Lib.hid hH
    have hb2 := Lib.hid (show ds'.length ≤ 100000 ∧ dp' ≤ 100000 ∧ -100000 ≤ dp' by omega)
    clear hH b1 b2
    go_wp2_with fail
    refine (half_any base a v' ds' dp' _ hd' hb2.out.1 hb2.out.2.1 hb2.out.2.2 59 (by omega) (by omega) hc2.out.canon).mono ?_
    rintro e w' ⟨rfl, h1, h2, v3, ds3, dp3, h3, h4⟩
    go_wp2
    go_roundw
    case rel => exact ⟨c + 59, r - 59, v3, ds3, dp3, by go_num, by omega, by omega, Lib.hid ⟨h3, H.out.2.1.trans h1, Nat.le_trans H.out.2.2.1 h2, H.out.2.2.2.trans h4⟩⟩
    case measure => simp [intOf]; omega
   ·have j1 : (r : Int) ≤ 59 := by omega
    have hc2 := Lib.hid hH
    have hb2 := Lib.hid (show ds'.length ≤ 100000 ∧ dp' ≤ 100000 ∧ -100000 ≤ dp' by omega)
    clear hH b1 b2
    go_wp2_with fail
    refine (half_any base a v' ds' dp' _ hd' hb2.out.1 hb2.out.2.1 hb2.out.2.2 r (by omega) (by omega) hc2.out.canon).mono ?_
    rintro e w' ⟨rfl, h1, h2, v3, ds3, dp3, h3, h4⟩
    go_wp2
    go_end0
    exact ⟨rfl, H.out.2.1.trans h1, Nat.le_trans H.out.2.2.1 h2, v3, ds3, dp3, h3, by rw [← hcr]; exact H.out.2.2.2.trans h4⟩
end Go.Proofs.YtillamhoakohdaaGreatDoor
namespace Go.Proofs.YtillamhoakohdaaGreatDoor
open Go.RowKit
attribute [local go_sem] setCell_drewN

theorem half_anyI (base a : Nat) (v : Value) (ds : Bs) (dp : Int) (w : World) (kk : Int) (hd : DecAt base a v ds dp w) (hl : ds.length ≤ 100000) (hdp : dp ≤ 100000) (hdp2 : -100000 ≤ dp) (k : Nat) (hk : k ≤ 59) (hk1 : 1 ≤ k)
  (hcan : Canon ds) (hkk : kk = (k : Int)) : Calls Tryz.prog 103 #[.pointer (some ⟨a, 0, none⟩), .int .i64 kk] w (HalfPost base a k ds dp w) := by
 subst hkk; exact half_any base a v ds dp w hd hl hdp hdp2 k hk hk1 hcan
theorem double_anyI (base a : Nat) (v : Value) (ds : Bs) (dp : Int) (w : World) (kk : Int) (hd : DecAt base a v ds dp w) (hl : ds.length ≤ 100000) (hdp : dp ≤ 100000) (hdp2 : -100000 ≤ dp) (k : Nat) (hk : k ≤ 59) (hk1 : 1 ≤ k)
  (hcan : Canon ds) (hkk : kk = (k : Int)) : Calls Tryz.prog 104 #[.pointer (some ⟨a, 0, none⟩), .int .i64 kk] w (DoublePost base a k ds dp w) := by
 subst hkk; exact double_any base a v ds dp w hd hl hdp hdp2 k hk hk1 hcan
theorem shift_upI (base a : Nat) (v : Value) (ds : Bs) (dp : Int) (w : World) (kk : Int) (hd : DecAt base a v ds dp w) (hl : ds.length ≤ 100000) (hdp : dp ≤ 100000) (hdp2 : -100000 ≤ dp) (k : Nat) (hk : k ≤ 59) (hk1 : 1 ≤ k) (hcan : Canon ds)
  (hkk : kk = (k : Int)) : Calls Tryz.prog 101 #[.pointer (some ⟨a, 0, none⟩), .int .i64 kk] w (DoublePost base a k ds dp w) := by
 subst hkk; exact shift_up base a v ds dp w hd hl hdp hdp2 k hk hk1 hcan
theorem shift_downI (base a : Nat) (v : Value) (ds : Bs) (dp : Int) (w : World) (kk : Int) (hd : DecAt base a v ds dp w) (hl : ds.length ≤ 50000) (hdp : dp ≤ 50000) (hdp2 : -50000 ≤ dp) (k : Nat) (hk : k ≤ 5000) (hk1 : 1 ≤ k) (hcan : Canon ds)
  (hkk : kk = -(k : Int)) : Calls Tryz.prog 101 #[.pointer (some ⟨a, 0, none⟩), .int .i64 kk] w (HalfPost base a k ds dp w) := by
 subst hkk; exact shift_down base a v ds dp w hd hl hdp hdp2 k hk hk1 hcan

theorem Sc.more {ds0 ds : Bs} {dp0 dp e F F' : Int} (h : Sc ds0 dp0 ds dp e F) (h1 : F ≤ F') (h2 : F' ≤ 5000) : Sc ds0 dp0 ds dp e F' := ⟨h.canon, by have := h.fr; omega, h2, h.eq⟩
set_option exponentiation.threshold 6000 in
theorem nrm_of {ds : Bs} (hc : Canon ds) (hl : (ds.length : Int) ≤ 5000) (h : 5 ≤ dig0 ds 0) : 10 ^ 5000 ≤ 2 * ival 5000 ds 0 := by
 have h1 := (ival_first (K := 5000) (dp := 0) hc.dig hc.pos (by omega)).1
 have h2 : 5 * 10 ^ (((5000 : Nat) : Int) + 0 - 1).toNat ≤ dig0 ds 0 * 10 ^ (((5000 : Nat) : Int) + 0 - 1).toNat := Nat.mul_le_mul_right _ h
 have h3 : (((5000 : Nat) : Int) + 0 - 1).toNat = 4999 := by omega
 rw [h3] at h1 h2
 have h4 : 10 ^ 5000 = 10 ^ 4999 * 10 := Nat.pow_succ 10 4999
 rw [h4]
 generalize 10 ^ 4999 = q at *
 omega
theorem dbl53_dp {ds ds' : Bs} {dp dp' : Int} (h : Doubled 53 ds dp ds' dp') (hc : Canon ds) (hdp : dp ≤ 0) : dp' ≤ 17 := by
 have hf := h.frac
 obtain ⟨K, hK⟩ : ∃ K : Nat, 0 ≤ (K : Int) + dp - ds.length := ⟨((ds.length : Int) - dp).toNat, by omega⟩
 have e := h.val K hK
 have p1 := hc.pos; have p2 := h.canon.pos
 have a2 := ival_lt hc.dig hK
 have b1 := ival_ge (K := K) (dp := dp') h.canon (by omega)
 have k1 : 10 ^ ((K : Int) + dp).toNat ≤ 10 ^ K := Nat.pow_le_pow_right (by omega) (by omega)
 have : 10 ^ ((K : Int) + dp' - 1).toNat < 10 ^ (16 + K) := by
  refine Nat.lt_of_le_of_lt b1 ?_
  rw [e, Nat.pow_add]
  exact Nat.lt_of_le_of_lt (Nat.mul_le_mul_right _ (show 2 ^ 53 ≤ 10 ^ 16 by decide)) (Nat.mul_lt_mul_of_pos_left (Nat.lt_of_lt_of_le a2 k1) (by decide))
 have := pow10_lt this
 omega
theorem same_self (ds : Bs) (dp : Int) : SameDec ds dp (decV ds, dp - ds.length) := ⟨0, 0, rfl, by show ((0 : Nat) : Int) - ((0 : Nat) : Int) = dp - ds.length - dp + ds.length; omega⟩
theorem r_over {E : Int} {R : Nat} (hR : R = 9007199254740992) (h : 1024 ≤ E) : ¬ ((E + 1021).toNat * 2 ^ 52 + R < infR) := by
 have e : infR = 9218868437227405312 := by decide
 rw [e]
 show ¬ ((E + 1021).toNat * 4503599627370496 + R < 9218868437227405312)
 omega
theorem r_in {E : Int} {R : Nat} (hR : R = 9007199254740992) (h : E < 1024) (h0 : -1021 ≤ E) : (E + 1021).toNat * 2 ^ 52 + R = (E + 1023).toNat * 2 ^ 52 ∧ (E + 1023).toNat * 2 ^ 52 < infR := by
 have e : infR = 9218868437227405312 := by decide
 rw [e]
 show (E + 1021).toNat * 4503599627370496 + R = (E + 1023).toNat * 4503599627370496 ∧ (E + 1023).toNat * 4503599627370496 < 9218868437227405312
 omega
theorem r_mid {E : Int} {R : Nat} (h1 : 2 ^ 52 ≤ R) (h2 : R < 2 ^ 53) (h : E < 1025) (h0 : -1021 ≤ E) : (E + 1021).toNat * 2 ^ 52 + R = R % 2 ^ 52 + (E + 1022).toNat * 2 ^ 52 ∧ R % 2 ^ 52 + (E + 1022).toNat * 2 ^ 52 < infR := by
 have e : infR = 9218868437227405312 := by decide
 rw [e]
 have h1' : 4503599627370496 ≤ R := h1
 have h2' : R < 9007199254740992 := h2
 show (E + 1021).toNat * 4503599627370496 + R = R % 4503599627370496 + (E + 1022).toNat * 4503599627370496 ∧ R % 4503599627370496 + (E + 1022).toNat * 4503599627370496 < 9218868437227405312
 omega
theorem fin_bits (m x : Nat) (hm : m < 18446744073709551616) (hx : x < 4096) : bits .or .u64 (bits .and .u64 (m : Int) 4503599627370495) ((x : Int) * 4503599627370496) = ((m % 2 ^ 52 + x * 2 ^ 52 : Nat) : Int) := by
 have e1 : ((x : Int) * 4503599627370496) = ((2 ^ 52 * x : Nat) : Int) := by
  show _ = ((4503599627370496 * x : Nat) : Int); omega
 have e2 : bits .and .u64 (m : Int) 4503599627370495 = ((m % 2 ^ 52 : Nat) : Int) := by
  have := u64_and_nat m 4503599627370495 hm (by decide)
  rw [show ((4503599627370495 : Nat) : Int) = 4503599627370495 from rfl] at this
  rw [this, show 4503599627370495 = 2 ^ 52 - 1 from rfl, Nat.and_two_pow_sub_one_eq_mod]
 have h3 : m % 2 ^ 52 < 2 ^ 52 := Nat.mod_lt _ (by decide)
 rw [e1, e2, u64_or_nat _ _ (Nat.lt_trans h3 (by decide)) (by show 4503599627370496 * x < _; omega), Nat.or_comm, ← Nat.two_pow_add_eq_or_of_lt h3]
 congr 1
 rw [Nat.mul_comm, Nat.add_comm]
theorem and_pow52 (m : Nat) : m &&& 2 ^ 52 = if m.testBit 52 = true then 2 ^ 52 else 0 := by
 apply Nat.eq_of_testBit_eq
 intro i
 rw [Nat.testBit_and, Nat.testBit_two_pow]
 by_cases h : 52 = i
 ·subst h
  by_cases hh : m.testBit 52 = true
  ·rw [if_pos hh, hh]; decide
  ·rw [if_neg hh]; simp at hh; simp [hh]
 ·simp only [h, decide_false, Bool.and_false]
  split
  ·rw [Nat.testBit_two_pow]; simp [h]
  ·simp
theorem and_bit (m : Nat) (hm : m < 2 ^ 53) : bits .and .u64 (m : Int) 4503599627370496 = if 2 ^ 52 ≤ m then 4503599627370496 else 0 := by
 have := u64_and_nat m 4503599627370496 (Nat.lt_trans hm (by decide)) (by decide)
 rw [show ((4503599627370496 : Nat) : Int) = 4503599627370496 from rfl] at this
 rw [this, show 4503599627370496 = 2 ^ 52 from rfl, and_pow52]
 by_cases h : 2 ^ 52 ≤ m
 ·rw [if_pos h]
  have : m.testBit 52 = true := by
   rw [Nat.testBit_eq_decide_div_mod_eq]
   have : m / 2 ^ 52 = 1 := by omega
   rw [this]; rfl
  rw [if_pos this]; rfl
 ·rw [if_neg h]
  have : m.testBit 52 = false := Nat.testBit_lt_two_pow (by omega)
  rw [this]; rfl
theorem ret_ub {a b : Int} {c : Bool} (h : a = b) : Ending.returned (.tuple #[.int .u64 a, .bool c]) = .returned (.tuple #[.int .u64 b, .bool c]) := by rw [h]
theorem box_cells {w : World} {g : Nat} (h : w.heap[g]? = some (.cells #[.int .i64 52, .int .i64 11, .int .i64 (-1023)] 128 (0, 0))) :
  w.cell? ⟨g, 0, none⟩ = some (.int .i64 52) ∧ w.cell? ⟨g, 1, none⟩ = some (.int .i64 11) ∧ w.cell? ⟨g, 2, none⟩ = some (.int .i64 (-1023)) :=
 ⟨(cell_of_row _ _ 0 _ _ _ h).trans rfl, (cell_of_row _ _ 1 _ _ _ h).trans rfl, (cell_of_row _ _ 2 _ _ _ h).trans rfl⟩
def BitsIs (ds : Bs) (dp : Int) (b : Nat) (ov : Bool) : Prop :=
 ∀ d, SameDec ds dp d → (ov = true → b = infR ∧ ∀ neg, FltIs neg d none) ∧ (ov = false → b < infR ∧ Near (fracA d) (fracB d) b)
def BitsPost (a : Nat) (ds : Bs) (dp : Int) (w : World) (e : Ending) (w' : World) : Prop :=
 ∃ (b : Nat) (ov : Bool), e = .returned (.tuple #[.int .u64 b, .bool ov]) ∧ BitsIs ds dp b ov ∧ Fr a w w'
def fForm : Value := .agg #[.int .i64 52, .int .i64 11, .int .i64 (-1023)]
set_option exponentiation.threshold 6000 in
theorem bitsIs_nil (dp : Int) : BitsIs [] dp 0 false := by
 intro d ⟨x, y, h, _⟩
 refine ⟨fun h => (by cases h), fun _ => ⟨by decide, ?_⟩⟩
 have h0 : d.1 = 0 := by
  rw [show decV ([] : Bs) = 0 from rfl, Nat.zero_mul] at h
  rcases Nat.mul_eq_zero.1 h.symm with h | h
  ·exact h
  ·exact absurd h (Nat.ne_of_gt (Nat.pow_pos (by omega)))
 have hA : fracA d = 0 := by unfold fracA; rw [h0]; simp
 rw [hA]
 exact ⟨Or.inl rfl, Or.inl (Nat.mul_pos (by decide) (fracB_pos d))⟩

set_option maxRecDepth 100000 in
set_option maxHeartbeats 4000000 in
theorem bits_any (base a : Nat) (v : Value) (ds : Bs) (dp : Int) (w : World) (hd : DecAt base a v ds dp w) (hcan : ds = [] ∨ Canon ds) (hl : ds.length ≤ 200) :
  Calls Tryz.prog 71 #[.pointer (some ⟨a, 0, none⟩), fForm] w (BitsPost a ds dp w) := by
 unfold fForm
 have hd1 : DecAt base a v ds dp (w.alloc (.cells #[.int .i64 52, .int .i64 11, .int .i64 (-1023)] 128)) := hd.below (Below.alloc (Below.refl _ _) (Nat.le_refl _) _)
 have hF1 : Fr a w (w.alloc (.cells #[.int .i64 52, .int .i64 11, .int .i64 (-1023)] 128)) := fr_then (Fr.refl _ _) (Below.alloc (Below.refl w.heap.size _) (Nat.le_refl _) _) (Nat.le_refl _)
 have hg := heap_alloc_new w (.cells #[.int .i64 52, .int .i64 11, .int .i64 (-1023)] 128)
 have hga : w.heap.size ≠ a := by have := hd.lt; omega
 go_enter Tryz.func71, Tryz.ntmps71
 go_upto_region 1 with fail
 generalize w.heap.size = g at *
 generalize hW1 : w.alloc (.cells #[.int .i64 52, .int .i64 11, .int .i64 (-1023)] 128) = W1 at *
 clear hW1
 obtain ⟨b0, b1, b2⟩ := box_cells hg
 go_quiet (fail)
 have hd2 : DecAt base a v ds dp (W1.drewN nq) := hd1.drew nq
 have hF2 : Fr a w (W1.drewN nq) := fr_drew hF1 nq
 have hg2 : (W1.drewN nq).heap[g]? = some (.cells #[.int .i64 52, .int .i64 11, .int .i64 (-1023)] 128 (0, 0)) := hg
 generalize W1.drewN nq = W2 at *
 clear hd1 hF1 hg b0 b1 b2 hd
 have c0 := hd2.c0
 have c1 := hd2.c1
 obtain ⟨⟨p, cap, rfl⟩, _⟩ := own_shape hd2.own
 rcases hcan with rfl | hcan
 ·go_wp2
  go_ret2
  exact ⟨0, false, rfl, bitsIs_nil dp, hF2⟩
 ·have hlen := hcan.pos
  have hn0 : ((ds.length : Int) == 0) = false := by rw [beq_eq_false_iff_ne]; omega
  by_cases hlow : dp < -330
  ·go_wp2
   go_ret2
   exact ⟨0, false, rfl, fun d hs => ⟨fun h => (by cases h), fun _ => ⟨by decide, flt_small false hs hcan.dig hlow⟩⟩, hF2⟩
  by_cases hhigh : 310 < dp
  ·go_wp2
   go_ret2
   exact ⟨9218868437227405312, true, rfl, fun d hs => ⟨fun _ => ⟨by decide, fun neg => flt_large neg hs hcan hhigh⟩, fun h => (by cases h)⟩, hF2⟩
  have hf0 : (ds.length : Int) - dp ≤ 600 := by omega
  go_upto_region 7 with fail
  go_loopw [7] (fun n wr => ∃ (k : Nat) (v' : Value) (ds' : Bs) (dp' : Int), n = .int .i64 k ∧ dp' ≤ 310 ∧ -400 ≤ dp' ∧ k ≤ 1100 ∧ Hid (DecAt base a v' ds' dp' wr ∧ Fr a w wr ∧ wr.heap[g]? = some (.cells #[.int .i64 52, .int .i64 11, .int .i64 (-1023)] 128 (0, 0)) ∧ Sc ds dp ds' dp' k (600 + k))) (fun n _ => 1100 - (intOf n).toNat)
  case atStart => exact ⟨0, _, ds, dp, rfl, by omega, by omega, by omega, Lib.hid ⟨hd2, hF2, hg2, Sc.start hcan (by omega) (by omega)⟩⟩
  case round =>
   obtain ⟨k, v', ds', dp', rfl, hp1, hp2, hk, H⟩ := hrel
   clear c0 c1
   have c1 := H.out.1.c1
   by_cases hpos : 0 < dp'
   ·have hk2 := H.out.2.2.2.below hcan (by omega) (by omega) hpos
    have hfr := H.out.2.2.2.fr
    obtain ⟨q, hq⟩ : ∃ q : Nat, min (3 * dp') 59 = (q : Int) := ⟨(min (3 * dp') 59).toNat, by omega⟩
    have hq1 : 1 ≤ q ∧ q ≤ 59 := by omega
    have hlen' : ds'.length ≤ 100000 := by omega
    have HQ := Lib.hid hq
    clear hq hfr
    rcases (by omega : 3 * dp' ≤ 59 ∨ 59 < 3 * dp') with h59 | h59
    all_goals
     go_wp2_with fail
     refine (half_anyI base a v' ds' dp' _ _ H.out.1 hlen' (by omega) (by omega) q hq1.2 hq1.1 H.out.2.2.2.canon (by have := HQ.out; omega)).mono ?_
     rintro e w' ⟨rfl, h1, h2, v3, ds3, dp3, h3, h4⟩
     have hpt := h4.pt H.out.2.2.2.canon
     have HN : Hid (DecAt base a v3 ds3 dp3 w' ∧ Fr a w w' ∧ w'.heap[g]? = some (.cells #[.int .i64 52, .int .i64 11, .int .i64 (-1023)] 128 (0, 0)) ∧ Sc ds dp ds3 dp3 ((k + q : Nat) : Int) (600 + ((k + q : Nat) : Int))) :=
      Lib.hid ⟨h3, H.out.2.1.trans h1, (h1.block g (by have := (Array.getElem?_eq_some_iff.1 H.out.2.2.1).1; exact this) (by simp [hga])).trans H.out.2.2.1, by
       have := H.out.2.2.2.half h4 (by omega)
       rw [show ((k + q : Nat) : Int) = (k : Int) + q by omega, ← Int.add_assoc]; exact this⟩
     clear h1 h2 h3 h4
     have hqq := HQ.out
     go_wp2
     go_roundw
     case rel => exact ⟨k + q, v3, ds3, dp3, by go_num, by omega, by omega, by omega, HN⟩
     case measure => simp [intOf]; omega
   ·have hst : Hid (DecAt base a v' ds' dp' wr ∧ Fr a w wr ∧ wr.heap[g]? = some (.cells #[.int .i64 52, .int .i64 11, .int .i64 (-1023)] 128 (0, 0)) ∧ Sc ds dp ds' dp' k 1800) :=
     Lib.hid ⟨H.out.1, H.out.2.1, H.out.2.2.1, H.out.2.2.2.more (by omega) (by omega)⟩
    have hdp0 : dp' ≤ 0 := by omega
    go_upto_region 11 with fail
    clear H c1
    go_loopw [7] (fun n wr => ∃ (e : Int) (v' : Value) (ds' : Bs) (dp' : Int), n = .int .i64 e ∧ dp' ≤ 0 ∧ -400 ≤ dp' ∧ e ≤ 1100 ∧ -1200 ≤ e ∧ Hid (DecAt base a v' ds' dp' wr ∧ Fr a w wr ∧ wr.heap[g]? = some (.cells #[.int .i64 52, .int .i64 11, .int .i64 (-1023)] 128 (0, 0)) ∧ Sc ds dp ds' dp' e 1800)) (fun n _ => (intOf n + 1200).toNat)
    case atStart => exact ⟨k, v', ds', dp', rfl, hdp0, hp2, by omega, by omega, hst⟩
    case round =>
     clear hst hdp0 hpos hp1 hp2 hk
     obtain ⟨e, v1, ds1, dp1, rfl, hp1, hp2, he1, he2, H⟩ := hrel
     have c1 := H.out.1.c1
     have c0 := H.out.1.c0
     have he := H.out.2.2.2.above hcan (by omega) (by omega) hp1
     have hfr := H.out.2.2.2.fr
     have hl1 : ds1.length ≤ 100000 := by omega
     have hpos1 := H.out.2.2.2.canon.pos
     obtain ⟨⟨p1, cap1, rfl⟩, hsh⟩ := own_shape H.out.1.own
     obtain ⟨g1, cap1', e9, _, _, _, _⟩ := hsh (by intro e; subst e; simp at hpos1)
     simp only [Value.slice.injEq, true_and] at e9
     obtain ⟨rfl, rfl⟩ := e9
     have hc := own_cell' H.out.1.own 0 hpos1
     clear hsh hfr
     by_cases hneg : dp1 < 0
     ·obtain ⟨q, hq⟩ : ∃ q : Nat, min (-3 * dp1) 59 = (q : Int) := ⟨(min (-3 * dp1) 59).toNat, by omega⟩
      have hq1 : 1 ≤ q ∧ q ≤ 59 := by omega
      have HQ := Lib.hid hq
      clear hq
      rcases (by omega : -3 * dp1 ≤ 59 ∨ 59 < -3 * dp1) with h59 | h59
      all_goals
       go_wp2_with fail
       refine (double_anyI base a _ ds1 dp1 _ _ H.out.1 hl1 (by omega) (by omega) q hq1.2 hq1.1 H.out.2.2.2.canon (by have := HQ.out; omega)).mono ?_
       rintro e' w' ⟨rfl, h1, h2, v3, ds3, dp3, h3, h4⟩
       have hpt := h4.pt H.out.2.2.2.canon
       have hlow := doubled_low h4 H.out.2.2.2.canon hp1 (Or.inl ⟨hneg, by have := HQ.out; omega⟩)
       have HN : Hid (DecAt base a v3 ds3 dp3 w' ∧ Fr a w w' ∧ w'.heap[g]? = some (.cells #[.int .i64 52, .int .i64 11, .int .i64 (-1023)] 128 (0, 0)) ∧ Sc ds dp ds3 dp3 (e - (q : Int)) 1800) :=
        Lib.hid ⟨h3, H.out.2.1.trans h1, (h1.block g (by have := (Array.getElem?_eq_some_iff.1 H.out.2.2.1).1; exact this) (by simp [hga])).trans H.out.2.2.1, H.out.2.2.2.double h4⟩
       clear h1 h2 h3 h4
       have hqq := HQ.out
       go_wp2
       go_roundw
       case rel => exact ⟨e - q, v3, ds3, dp3, by go_num, by omega, by omega, by omega, by omega, HN⟩
       case measure => simp [intOf]; omega
     ·obtain rfl : dp1 = 0 := by omega
      by_cases h5 : dig0 ds1 0 < 5
      ·have hc5 : ((dig0 ds1 0 : Nat) : Int) < 5 := by omega
       go_wp2_with fail
       refine (double_anyI base a _ ds1 0 _ _ H.out.1 hl1 (by omega) (by omega) 1 (by omega) (by omega) H.out.2.2.2.canon rfl).mono ?_
       rintro e' w' ⟨rfl, h1, h2, v3, ds3, dp3, h3, h4⟩
       have hpt := h4.pt H.out.2.2.2.canon
       have hlow := doubled_low h4 H.out.2.2.2.canon hp1 (Or.inr ⟨rfl, h5, rfl⟩)
       have HN : Hid (DecAt base a v3 ds3 dp3 w' ∧ Fr a w w' ∧ w'.heap[g]? = some (.cells #[.int .i64 52, .int .i64 11, .int .i64 (-1023)] 128 (0, 0)) ∧ Sc ds dp ds3 dp3 (e - 1) 1800) :=
        Lib.hid ⟨h3, H.out.2.1.trans h1, (h1.block g (by have := (Array.getElem?_eq_some_iff.1 H.out.2.2.1).1; exact this) (by simp [hga])).trans H.out.2.2.1, H.out.2.2.2.double h4⟩
       clear h1 h2 h3 h4
       go_wp2
       go_roundw
       case rel => exact ⟨e - 1, v3, ds3, dp3, by go_num, by omega, by omega, by omega, by omega, HN⟩
       case measure => simp [intOf]; omega
      ·have hc5 : (5 : Int) ≤ ((dig0 ds1 0 : Nat) : Int) := by omega
       have hnrm : 10 ^ 5000 ≤ 2 * ival 5000 ds1 0 := nrm_of H.out.2.2.2.canon (by have := H.out.2.2.2.fr; omega) (by omega)
       have HNR := Lib.hid hnrm
       clear hnrm
       obtain ⟨b0, b1, b2⟩ := box_cells H.out.2.2.1
       go_upto_if 96 with fail
       go_cut [7] (fun x wc => ∃ (E : Int) (v2 : Value) (ds2 : Bs) (dp2 : Int), x = .int .i64 (E - 1) ∧ E ≤ 1100 ∧ -1021 ≤ E ∧ Hid (DecAt base a v2 ds2 dp2 wc ∧ Fr a w wc ∧ wc.heap[g]? = some (.cells #[.int .i64 52, .int .i64 11, .int .i64 (-1023)] 128 (0, 0)) ∧ Ready ds dp ds2 dp2 E ∧ ds2.length ≤ 10000 ∧ -5000 ≤ dp2))
       case first =>
        by_cases hlo : e < -1021
        ·obtain ⟨q, hq⟩ : ∃ q : Nat, (q : Int) = -1021 - e := ⟨(-1021 - e).toNat, by omega⟩
         go_wp2_with fail
         refine (shift_downI base a _ ds1 0 _ _ H.out.1 (by have := H.out.2.2.2.fr; omega) (by omega) (by omega) q (by omega) (by omega) H.out.2.2.2.canon (by omega)).mono ?_
         rintro e' w' ⟨rfl, h1, h2, v3, ds3, dp3, h3, h4⟩
         have hpt := h4.pt H.out.2.2.2.canon
         have hfr2 := h4.frac
         have hfr1 := H.out.2.2.2.fr
         have HN : Hid (DecAt base a v3 ds3 dp3 w' ∧ Fr a w w' ∧ w'.heap[g]? = some (.cells #[.int .i64 52, .int .i64 11, .int .i64 (-1023)] 128 (0, 0)) ∧ Ready ds dp ds3 dp3 (-1021) ∧ ds3.length ≤ 10000 ∧ -5000 ≤ dp3) :=
          Lib.hid ⟨h3, H.out.2.1.trans h1, (h1.block g (by have := (Array.getElem?_eq_some_iff.1 H.out.2.2.1).1; exact this) (by simp [hga])).trans H.out.2.2.1, ⟨by
           have := (H.out.2.2.2.half h4 (by omega)).more (F' := 5000) (by omega) (by omega)
           rw [hq, show e + (-1021 - e) = -1021 by omega] at this; exact this, by omega, by omega, Or.inl rfl⟩, by omega, by omega⟩
         clear h1 h2 h3 h4
         go_wp2
         go_meet
         case rel => exact ⟨-1021, v3, ds3, dp3, by go_num, by omega, by omega, HN⟩
        ·have HN : Hid (DecAt base a _ ds1 0 wr ∧ Fr a w wr ∧ wr.heap[g]? = some (.cells #[.int .i64 52, .int .i64 11, .int .i64 (-1023)] 128 (0, 0)) ∧ Ready ds dp ds1 0 e ∧ ds1.length ≤ 10000 ∧ -5000 ≤ (0 : Int)) :=
          Lib.hid ⟨H.out.1, H.out.2.1, H.out.2.2.1, ⟨H.out.2.2.2.more (by omega) (by omega), by omega, by omega, Or.inr HNR.out⟩, by have := H.out.2.2.2.fr; omega, by omega⟩
         go_wp2
         go_meet
         case rel => exact ⟨e, _, ds1, 0, rfl, by omega, by omega, HN⟩
       case rest =>
       clear H HNR b0 b1 b2 c0 c1 hc hc5 he he1 he2 hp1 hp2 hl1 hpos1 h5
       obtain ⟨E, v2, ds2, dp2, rfl, hE1, hE2, H⟩ := hcut
       obtain ⟨b0, b1, b2⟩ := box_cells H.out.2.2.1
       by_cases hov : 1025 ≤ E
       ·have hp : Hid (BitsIs ds dp 9218868437227405312 true) := Lib.hid fun d hs => ⟨fun _ => ⟨by decide, fun neg => H.out.2.2.2.1.over hs (by omega) neg hov⟩, fun h => (by cases h)⟩
        go_wp2
        go_quiet (fail)
        go_wp2
        go_ret2
        exact ⟨9218868437227405312, true, rfl, hp.out, fr_drew H.out.2.1 _⟩
       ·go_wp2
        go_quiet (fail)
        have HN : Hid (DecAt base a v2 ds2 dp2 (wc.drewN nq) ∧ Fr a w (wc.drewN nq) ∧ (wc.drewN nq).heap[g]? = some (.cells #[.int .i64 52, .int .i64 11, .int .i64 (-1023)] 128 (0, 0)) ∧ Ready ds dp ds2 dp2 E ∧ ds2.length ≤ 10000 ∧ -5000 ≤ dp2) :=
         Lib.hid ⟨H.out.1.drew nq, fr_drew H.out.2.1 nq, H.out.2.2.1, H.out.2.2.2⟩
        clear H
        generalize wc.drewN nq = wd at *
        have hp2 := HN.out.2.2.2.1.lt
        clear b0 b1 b2
        obtain ⟨b0, b1, b2⟩ := box_cells HN.out.2.2.1
        go_wp2_with fail
        refine (shift_upI base a v2 ds2 dp2 _ _ HN.out.1 (by have := HN.out.2.2.2.2.1; omega) (by omega) (by have := HN.out.2.2.2.2.2; omega) 53 (by omega) (by omega) HN.out.2.2.2.1.sc.canon rfl).mono ?_
        rintro e' w' ⟨rfl, h1, h2, v3, ds3, dp3, h3, h4⟩
        clear b0 b1 b2
        have hg3 := (h1.block g (by have := (Array.getElem?_eq_some_iff.1 HN.out.2.2.1).1; exact this) (by simp [hga])).trans HN.out.2.2.1
        have hF3 := HN.out.2.1.trans h1
        obtain ⟨b0, b1, b2⟩ := box_cells hg3
        have hpt := h4.pt HN.out.2.2.2.1.sc.canon
        have hfr3 := h4.frac
        have hfr2 := HN.out.2.2.2.1.sc.fr
        have hrne := whole_rne (K := 5000) (dp := dp3) h4.canon (by omega) (by omega)
        have h16 : dp3 ≤ 17 := dbl53_dp h4 HN.out.2.2.2.1.sc.canon hp2
        generalize hR : pre ds3 dp3.toNat + (if nearUpB ds3 dp3 = true then 1 else 0) = R at *
        have hnear := fun d hs => HN.out.2.2.2.1.near (d := d) (m := R) hs (by omega) h4 hrne
        have HNear := Lib.hid hnear
        clear hnear hrne
        go_wp2_with fail
        refine (whole_any base a v3 ds3 dp3 _ h3 h4.canon.dig (by omega) h16 R hR).mono ?_
        rintro e' w'' ⟨rfl, rfl⟩
        have hb := (HNear.out _ (same_self ds dp)).2
        obtain ⟨hb1, hb2⟩ := hb
        have hFD := Lib.hid hF3
        clear h3 h4 hF3 HN hg3 hR hfr2 hfr3 hpt h16 hp2 h1 h2
        by_cases hR53 : R = 9007199254740992
        ·by_cases hE3 : 1024 ≤ E
         ·have hp : Hid (BitsIs ds dp 9218868437227405312 true) := Lib.hid fun d hs => ⟨fun _ => ⟨by decide, fun neg => by
           have := flt_of_near (neg := neg) (HNear.out d hs).1
           rw [if_neg (r_over hR53 hE3)] at this; exact this⟩, fun h => (by cases h)⟩
          subst hR53
          go_wp2
          go_quiet (fail)
          go_wp2
          go_ret2
          exact ⟨9218868437227405312, true, rfl, hp.out, fr_drew hFD.out _⟩
         ·have hp : Hid (BitsIs ds dp ((E + 1023).toNat * 2 ^ 52) false) := Lib.hid fun d hs => ⟨fun h => (by cases h), fun _ => by
           have := (HNear.out d hs).1
           rw [(r_in hR53 (by omega) hE2).1] at this
           exact ⟨(r_in hR53 (by omega) hE2).2, this⟩⟩
          have key := fin_bits 4503599627370496 (E + 1023).toNat (by decide) (by omega)
          rw [show (((E + 1023).toNat : Nat) : Int) = E + 1023 by omega, show 4503599627370496 % 2 ^ 52 = 0 from rfl, Nat.zero_add] at key
          have KEY := Lib.hid key
          clear key
          subst hR53
          go_wp2
          go_quiet (fail)
          go_wp2
          go_quiet (fail)
          go_wp2
          go_ret2
          exact ⟨_, false, ret_ub KEY.out, hp.out, fr_drew (fr_drew hFD.out _) _⟩
        ·have hR2 : R < 2 ^ 53 := by omega
         have hi1 : ((R : Int) == 9007199254740992) = false := by rw [beq_eq_false_iff_ne]; omega
         have ha := and_bit R hR2
         by_cases hR52 : 2 ^ 52 ≤ R
         ·rw [if_pos hR52] at ha
          have hp : Hid (BitsIs ds dp (R % 2 ^ 52 + (E + 1022).toNat * 2 ^ 52) false) := Lib.hid fun d hs => ⟨fun h => (by cases h), fun _ => by
           have := (HNear.out d hs).1
           rw [(r_mid hR52 hR2 (by omega) hE2).1] at this
           exact ⟨(r_mid hR52 hR2 (by omega) hE2).2, this⟩⟩
          have key := fin_bits R (E + 1022).toNat (Nat.lt_trans hR2 (by decide)) (by omega)
          rw [show (((E + 1022).toNat : Nat) : Int) = E - 1 + 1023 by omega] at key
          have KEY := Lib.hid key
          clear key hR52 hb1 hb2 hR2 hR53
          go_wp2
          go_quiet (fail)
          go_wp2
          go_ret2
          exact ⟨_, false, ret_ub KEY.out, hp.out, fr_drew hFD.out _⟩
         ·rw [if_neg hR52] at ha
          have hE9 : E = -1021 := hb2.resolve_right hR52
          have hp : Hid (BitsIs ds dp (R % 2 ^ 52 + 0 * 2 ^ 52) false) := Lib.hid fun d hs => ⟨fun h => (by cases h), fun _ => by
           have := (HNear.out d hs).1
           rw [hE9, show ((-1021 : Int) + 1021).toNat = 0 from rfl] at this
           rw [Nat.zero_mul, Nat.zero_add] at this
           rw [Nat.zero_mul, Nat.add_zero, Nat.mod_eq_of_lt (by omega)]
           exact ⟨Nat.lt_trans (Nat.not_le.1 hR52) (by decide), this⟩⟩
          have key := fin_bits R 0 (Nat.lt_trans hR2 (by decide)) (by omega)
          have KEY := Lib.hid key
          clear key hR52 hb1 hb2 hR2 hR53
          go_wp2
          go_quiet (fail)
          go_wp2
          go_ret2
          exact ⟨_, false, ret_ub KEY.out, hp.out, fr_drew hFD.out _⟩
end Go.Proofs.YtillamhoakohdaaGreatDoor
