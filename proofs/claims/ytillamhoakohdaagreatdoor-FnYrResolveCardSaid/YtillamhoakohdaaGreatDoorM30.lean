/-
  Walks: the light reading of a decimal.
-/
import Derived.Test.YtillamhoakohdaaGreatDoorM29
set_option linter.unusedVariables false
set_option linter.unusedSimpArgs false
namespace Go.Proofs.YtillamhoakohdaaGreatDoor
open Go.RowKit
attribute [local go_sem] setCell_drewN
theorem own_ne_row {base a : Nat} {v : Value} {l : Bs} {w : World} {cs : Array Value} {fr : Nat × Nat} (h : OwnB base w v l) (hr : w.heap[a]? = some (.cells cs 161 fr)) : v.ownBlock ≠ some a := by
 intro e
 rcases h.2 with ⟨rfl, _⟩ | ⟨g, cap, cur, rfl, _, h3, _⟩
 ·cases e
 ·simp [Value.ownBlock] at e
  subst e
  rw [hr] at h3
  simp at h3
theorem dec_mk {base a : Nat} {v v' : Value} {ds : Bs} {dp : Int} {w : World} (hr : w.heap[a]? = some (.cells #[v, .int .i64 dp] 161 (0, 0))) (ha : base ≤ a) (ho : OwnB base w v' ds) :
  DecAt base a v' ds dp (w.setCell ⟨a, 0, none⟩ v') := by
 have hne := own_ne_row ho hr
 exact ⟨heap_setCell_same _ _ _ _ _ _ hr, own_setOther ho hne, hne, ha⟩
theorem own_shape' {base : Nat} {v : Value} {l : Bs} {w : World} (h : OwnB base w v l) : ∃ p n cap, v = .slice p n cap ∧ n = l.length := by
 obtain ⟨⟨p, cap, e⟩, _⟩ := own_shape h
 exact ⟨p, _, cap, e, rfl⟩
abbrev DB (g : Nat) (w : World) (v : Value) (ds : Bs) (dp : Int) (W : World) : Prop := DecAt g g v ds dp W ∧ Below g w W
theorem db_mk {g : Nat} {w w1 : World} {v v' : Value} {ds : Bs} {dp : Int} (hr : w1.heap[g]? = some (.cells #[v, .int .i64 dp] 161 (0, 0))) (ho : OwnB g w1 v' ds) (hb : Below g w w1) : DB g w v' ds dp (w1.setCell ⟨g, 0, none⟩ v') :=
 ⟨dec_mk hr (Nat.le_refl _) ho, below_setCell hb (Nat.le_refl _) _⟩
theorem db_dp {g : Nat} {w W : World} {v : Value} {ds : Bs} {dp : Int} (h : DB g w v ds dp W) (dp' : Int) : DB g w v ds dp' (W.setCell ⟨g, 1, none⟩ (.int .i64 dp')) :=
 ⟨h.1.setDp dp', below_setCell h.2 (Nat.le_refl _) _⟩
theorem lower_e (c : UInt8) : ((c ||| 32) = 101 ↔ c = 101 ∨ c = 69) := by
 have h : ∀ n : Fin 256, ((UInt8.ofNat n.val ||| 32) = 101 ↔ UInt8.ofNat n.val = 101 ∨ UInt8.ofNat n.val = 69) := by decide +kernel
 have := h ⟨c.toNat, c.toNat_lt⟩
 simpa using this
def ReadPost (t : Bs) (w : World) (e : Ending) (w' : World) : Prop := Below w.heap.size w w' ∧
 match readP t with
 | none => e = .returned (.tuple #[.pointer none, .bool false])
 | some (ds, dp) => e = .returned (.tuple #[.pointer (some ⟨w.heap.size, 0, none⟩), .bool true]) ∧ ds.length ≤ t.length ∧ ∃ v', DecAt w.heap.size w.heap.size v' (trimR ds) (if trimR ds = [] then 0 else dp) w'
def isE (l : Bs) : Bool := match l with | c :: _ => decide (c = 101 ∨ c = 69) | [] => false
theorem sgn_none {l : Bs} (h : (sgn l).2.2 = false) : (sgn l).1 = l := by
 cases l with
 | nil => rfl
 | cons c r =>
  rw [sgn_cons] at h ⊢
  by_cases h1 : c = 45
  ·rw [if_pos h1] at h; cases h
  ·rw [if_neg h1] at h ⊢
   by_cases h2 : c = 43
   ·rw [if_pos h2] at h; cases h
   ·rw [if_neg h2]
theorem sgn_some {l : Bs} (h : (sgn l).2.2 = true) : (sgn l).1 = l.drop 1 := by
 cases l with
 | nil => cases h
 | cons c r =>
  rw [sgn_cons] at h ⊢
  by_cases h1 : c = 45
  ·rw [if_pos h1]; rfl
  ·rw [if_neg h1] at h ⊢
   by_cases h2 : c = 43
   ·rw [if_pos h2]; rfl
   ·rw [if_neg h2] at h; cases h
theorem readPost_none {w wc : World} {t : Bs} {g : Nat} (hg : w.heap.size = g) (hb : Below g w wc) (hr : readP t = none) : ReadPost t w (.returned (.tuple #[.pointer none, .bool false])) wc := by
 unfold ReadPost; rw [hr, hg]; exact ⟨hb, rfl⟩
theorem readPost_some {w wc : World} {t ds : Bs} {dp : Int} {v : Value} {g : Nat} (hg : w.heap.size = g) (hb : Below g w wc) (hr : readP t = some (ds, dp)) (hl : ds.length ≤ t.length) (hd : DecAt g g v (trimR ds) (if trimR ds = [] then 0 else dp) wc) :
  ReadPost t w (.returned (.tuple #[.pointer (some ⟨g, 0, none⟩), .bool true])) wc := by
 unfold ReadPost; rw [hr, hg]; exact ⟨hb, rfl, hl, v, hd⟩
set_option maxRecDepth 100000 in
set_option maxHeartbeats 4000000 in
theorem read_any (s : ByteArray) (t : Bs) (w : World) (hl : StrIs s t) (hs : s.size ≤ 200) (hp : NoPre t) : Calls Tryz.prog 68 #[.string s] w (ReadPost t w) := by
 have hd0 : DecAt w.heap.size w.heap.size (.slice none 0 0) [] 0 (w.alloc (.cells #[.slice none 0 0, .int .i64 0] 161)) :=
  ⟨heap_alloc_new w _, OwnB.nil _ _, by simp [Value.ownBlock], Nat.le_refl _⟩
 have hb0 : Below w.heap.size w (w.alloc (.cells #[.slice none 0 0, .int .i64 0] 161)) := (Below.refl _ _).alloc (Nat.le_refl _) _
 have hg0 : w.heap.size < (w.alloc (.cells #[.slice none 0 0, .int .i64 0] 161)).heap.size := hd0.lt
 go_enter Tryz.func68, Tryz.ntmps68
 go_upto_region 2 with fail
 generalize w.alloc (.cells #[.slice none 0 0, .int .i64 0] 161) = W0 at *
 generalize hgs : w.heap.size = g at *
 have HGS := Lib.hid hgs
 clear hgs
 have HL := Lib.hid hl
 go_cut [5] from 17 to 30 (fun v wc => v = .bool false ∧ W0 = wc)
 case first =>
  match t, hl with
  | [], hl =>
   have hz : s.size < 2 := by have := hl.size; rw [this]; first | done | simp
   go_wp2
   go_meet
   case rel => exact ⟨rfl, rfl⟩
  | [_], hl =>
   have hz : s.size < 2 := by have := hl.size; rw [this]; first | done | simp
   go_wp2
   go_meet
   case rel => exact ⟨rfl, rfl⟩
  | a :: b :: q, hl =>
   obtain ⟨h0, h1, e0, e1⟩ := hl.cons2
   have hz : 2 ≤ s.size := by omega
   by_cases ha : a = 48
   ·subst ha
    have hb := hp b q rfl
    have lw := lower_is b
    have k3 : (((b ||| 32).toNat : Int) == 120) = false := byte_ne (d := 120) (fun e => (lw.2.2.1 e).elim hb.2.2.2.2.1 hb.2.2.2.2.2)
    have L := fun w => lower_any b w
    clear lw hb
    generalize (b ||| 32).toNat = lb at *
    go_wp2_with fail
    refine (L _).mono ?_
    rintro e w' ⟨rfl, rfl⟩
    go_wp2
    go_meet
    case rel => exact ⟨rfl, rfl⟩
   ·have k1 : ((a.toNat : Int) == 48) = false := byte_ne (d := 48) ha
    go_wp2
    go_meet
    case rel => exact ⟨rfl, rfl⟩
 case rest =>
 obtain ⟨rfl, rfl⟩ := hcut
 unfold StrIs at hl
 subst hl
 have HSL := Lib.hid (Lib.size_eq s)
 go_upto_block 0 with fail
 go_cut [7, 8, 9, 10, 11, 12, 13] from 34 to 129 (fun _ x _ y i _ _ wc => y = .int .i64 0 ∧ ∃ (k : Nat) (sm : Bool) (ds : Bs) (dp : Int) (v : Value), x = .bool sm ∧ i = .int .i64 k ∧ k ≤ s.size ∧ ds.length ≤ k ∧ -300 ≤ dp ∧ dp ≤ 300 ∧ Hid (DecAt g g v ds dp wc ∧ Below g w wc) ∧ Hid (scan false false [] 0 s.data.toList = (sm, ds, dp, s.data.toList.drop k)))
 case first => as_aux_lemma =>
  go_upto_region 8 with fail
  go_loopw [8, 9, 10, 11] (fun x z y i wr => y = .int .i64 0 ∧ ∃ (k : Nat) (sm dot : Bool) (ds : Bs) (dp : Int) (v : Value), x = .bool sm ∧ z = .bool dot ∧ i = .int .i64 k ∧ k ≤ s.size ∧ ds.length ≤ k ∧ -(k : Int) ≤ dp ∧ dp ≤ k ∧ Hid (DecAt g g v ds dp wr ∧ Below g w wr) ∧ Hid (scan false false [] 0 s.data.toList = scan dot sm ds dp (s.data.toList.drop k))) (fun _ _ _ i _ => s.size - (intOf i).toNat)
  case atStart => exact ⟨rfl, 0, false, false, [], 0, _, rfl, rfl, rfl, Nat.zero_le _, by simp, by omega, by omega, Lib.hid ⟨hd0, hb0⟩, Lib.hid (by simp)⟩
  case round =>
   obtain ⟨rfl, k, sm, dot, ds, dp, v, rfl, rfl, rfl, hk, hdl, hdp1, hdp2, HD, H⟩ := hrel
   by_cases hlt : k < s.size
   ·have hdr := Lib.hid (drop_cons s k hlt)
    generalize hc : s[k] = c at *
    by_cases h95 : c = 95
    ·subst h95
     have HN : Hid (scan false false [] 0 s.data.toList = scan dot sm ds dp (s.data.toList.drop (k + 1))) := Lib.hid (by rw [H.out, hdr.out, scan, if_pos rfl])
     clear H
     go_wp2
     go_roundw
     case rel => exact ⟨rfl, k + 1, sm, dot, ds, dp, v, rfl, rfl, by go_num, by omega, by omega, by omega, by omega, HD, HN⟩
     case measure => simp [intOf]; omega
    ·have k95 : ((c.toNat : Int) == 95) = false := byte_ne (d := 95) h95
     by_cases h46 : c = 46 ∧ dot = false
     ·obtain ⟨rfl, rfl⟩ := h46
      have HN : Hid (scan false false [] 0 s.data.toList = scan true sm ds dp (s.data.toList.drop (k + 1))) := Lib.hid (by rw [H.out, hdr.out, scan, if_neg h95, if_pos ⟨rfl, rfl⟩])
      clear H
      go_wp2
      go_roundw
      case rel => exact ⟨rfl, k + 1, sm, true, ds, dp, v, rfl, rfl, by go_num, by omega, by omega, by omega, by omega, HD, HN⟩
      case measure => simp [intOf]; omega
     ·have HD0 : Hid (¬ (c = 46 ∧ dot = false)) := Lib.hid h46
      have g46 : ((c.toNat : Int) == 46 && !dot) = false := by
       rw [Bool.and_eq_false_iff]
       by_cases h : c = 46
       ·right; cases dot
        ·exact absurd ⟨h, rfl⟩ h46
        ·rfl
       ·left; exact byte_ne (d := 46) h
      by_cases hdg : isDig c = true
      ·have hdg2 : 48 ≤ (c.toNat : Int) ∧ (c.toNat : Int) ≤ 57 := by rw [isDig_eq] at hdg; simp at hdg; omega
       have hsub := sub48 hdg
       obtain ⟨D1, B1⟩ := HD.out
       obtain ⟨p, n, cap, hv, hn⟩ := own_shape' D1.own
       subst hv
       replace hn := Lib.hid hn
       have c0 := D1.c0
       by_cases hnz : ds ≠ [] ∨ c ≠ 48
       ·have HN : ∀ dp', (if dot = true then dp else dp + 1) = dp' → Hid (scan false false [] 0 s.data.toList = scan dot true (ds ++ [c - 48]) dp' (s.data.toList.drop (k + 1))) := fun dp' hdp' =>
         Lib.hid (by rw [H.out, hdr.out, scan, if_neg h95, if_neg h46, if_pos hdg, if_pos hnz, hdp'])
        have HS := Lib.hid hsub
        clear H hsub
        have hgd : (n = 0 ∧ (((c.toNat : Int) - 48) != 0) = true) ∨ (0 : Int) < (n : Int) := by
         rcases Nat.eq_zero_or_pos n with h | h
         ·left
          refine ⟨h, ?_⟩
          have h9 := hn.out
          have : c ≠ 48 := hnz.resolve_left (fun h2 => h2 (List.eq_nil_of_length_eq_zero (by omega)))
          have : c.toNat ≠ 48 := fun e => this (UInt8.toNat_inj.1 e)
          rw [bne_iff_ne]; omega
         ·right; omega
        rcases hgd with ⟨rfl, hgl2⟩ | hgl
        ·cases dot
         ·have HN1 := HN (dp + 1) rfl
          clear HN
          go_wp2_with (at_builtin; refine append_num (w0 := w) g rfl (.tmp 89) (.tmp 91) rfl _ ds _ (c - 48) (by rw [HS.out.1]; omega) rfl rfl D1.own B1 (by have := D1.lt; omega) (by omega) ?_)
          intro v1 w1 hown hb1 hgr
          have hrow := (hgr.block g D1.lt (fun e => D1.ne e.symm)).trans D1.row
          obtain ⟨p1, n1, cap1, hv1, hn1⟩ := own_shape' hown
          subst hv1
          have D2 := (dec_mk hrow (Nat.le_refl _) hown)
          have f0 := frozen_of_row _ _ 0 _ _ hrow
          have c0' := (cell_of_row _ _ 0 _ _ _ hrow).trans rfl
          have f1 := D2.f1
          have c1 := D2.c1
          have HF := Lib.hid (db_dp (db_mk hrow hown hb1) (dp + 1))
          clear D2 hown hb1 hgr hrow c0 hn1
          go_wp2
          go_roundw
          case rel => exact ⟨rfl, k + 1, true, false, ds ++ [c - 48], dp + 1, _, rfl, rfl, by go_num, by omega, by simp; omega, by omega, by omega, HF, HN1⟩
          case measure => simp [intOf]; omega
         ·have HN1 := HN (dp) rfl
          clear HN
          go_wp2_with (at_builtin; refine append_num (w0 := w) g rfl (.tmp 89) (.tmp 91) rfl _ ds _ (c - 48) (by rw [HS.out.1]; omega) rfl rfl D1.own B1 (by have := D1.lt; omega) (by omega) ?_)
          intro v1 w1 hown hb1 hgr
          have hrow := (hgr.block g D1.lt (fun e => D1.ne e.symm)).trans D1.row
          obtain ⟨p1, n1, cap1, hv1, hn1⟩ := own_shape' hown
          subst hv1
          have D2 := (dec_mk hrow (Nat.le_refl _) hown)
          have f0 := frozen_of_row _ _ 0 _ _ hrow
          have c0' := (cell_of_row _ _ 0 _ _ _ hrow).trans rfl
          have HF := Lib.hid (db_mk hrow hown hb1)
          clear D2 hown hb1 hgr hrow c0 hn1
          go_wp2
          go_roundw
          case rel => exact ⟨rfl, k + 1, true, true, ds ++ [c - 48], dp, _, rfl, rfl, by go_num, by omega, by simp; omega, by omega, by omega, HF, HN1⟩
          case measure => simp [intOf]; omega
        ·cases dot
         ·have HN1 := HN (dp + 1) rfl
          clear HN
          go_wp2_with (at_builtin; refine append_num (w0 := w) g rfl (.tmp 89) (.tmp 91) rfl _ ds _ (c - 48) (by rw [HS.out.1]; omega) rfl rfl D1.own B1 (by have := D1.lt; omega) (by omega) ?_)
          intro v1 w1 hown hb1 hgr
          have hrow := (hgr.block g D1.lt (fun e => D1.ne e.symm)).trans D1.row
          obtain ⟨p1, n1, cap1, hv1, hn1⟩ := own_shape' hown
          subst hv1
          have D2 := (dec_mk hrow (Nat.le_refl _) hown)
          have f0 := frozen_of_row _ _ 0 _ _ hrow
          have c0' := (cell_of_row _ _ 0 _ _ _ hrow).trans rfl
          have f1 := D2.f1
          have c1 := D2.c1
          have HF := Lib.hid (db_dp (db_mk hrow hown hb1) (dp + 1))
          clear D2 hown hb1 hgr hrow c0 hn1
          go_wp2
          go_roundw
          case rel => exact ⟨rfl, k + 1, true, false, ds ++ [c - 48], dp + 1, _, rfl, rfl, by go_num, by omega, by simp; omega, by omega, by omega, HF, HN1⟩
          case measure => simp [intOf]; omega
         ·have HN1 := HN (dp) rfl
          clear HN
          go_wp2_with (at_builtin; refine append_num (w0 := w) g rfl (.tmp 89) (.tmp 91) rfl _ ds _ (c - 48) (by rw [HS.out.1]; omega) rfl rfl D1.own B1 (by have := D1.lt; omega) (by omega) ?_)
          intro v1 w1 hown hb1 hgr
          have hrow := (hgr.block g D1.lt (fun e => D1.ne e.symm)).trans D1.row
          obtain ⟨p1, n1, cap1, hv1, hn1⟩ := own_shape' hown
          subst hv1
          have D2 := (dec_mk hrow (Nat.le_refl _) hown)
          have f0 := frozen_of_row _ _ 0 _ _ hrow
          have c0' := (cell_of_row _ _ 0 _ _ _ hrow).trans rfl
          have HF := Lib.hid (db_mk hrow hown hb1)
          clear D2 hown hb1 hgr hrow c0 hn1
          go_wp2
          go_roundw
          case rel => exact ⟨rfl, k + 1, true, true, ds ++ [c - 48], dp, _, rfl, rfl, by go_num, by omega, by simp; omega, by omega, by omega, HF, HN1⟩
          case measure => simp [intOf]; omega
       ·have hd0 : ds = [] := Classical.byContradiction fun h => hnz (Or.inl h)
        have hc48 : c = 48 := Classical.byContradiction fun h => hnz (Or.inr h)
        have hn0 : n = 0 := by have := hn.out; rw [hd0] at this; exact this
        subst hn0
        have HN : ∀ dp', (if dot = true then dp - 1 else dp) = dp' → Hid (scan false false [] 0 s.data.toList = scan dot true ds dp' (s.data.toList.drop (k + 1))) := fun dp' hdp' =>
         Lib.hid (by rw [H.out, hdr.out, scan, if_neg h95, if_neg h46, if_pos hdg, if_neg hnz, hdp'])
        clear hd0
        subst hc48
        clear H hsub hnz
        cases dot
        ·have HN1 := HN dp rfl
         clear HN
         go_wp2
         go_roundw
         case rel => exact ⟨rfl, k + 1, true, false, ds, dp, _, rfl, rfl, by go_num, by omega, by omega, by omega, by omega, HD, HN1⟩
         case measure => simp [intOf]; omega
        ·have HN1 := HN (dp - 1) rfl
         clear HN
         have f1 := D1.f1
         have c1 := D1.c1
         have HF := Lib.hid (db_dp ⟨D1, B1⟩ (dp - 1))
         go_wp2
         go_roundw
         case rel => exact ⟨rfl, k + 1, true, true, ds, dp - 1, _, rfl, rfl, by go_num, by omega, by omega, by omega, by omega, HF, HN1⟩
         case measure => simp [intOf]; omega
      ·have hdg2 : ¬ (48 ≤ (c.toNat : Int) ∧ (c.toNat : Int) ≤ 57) := by rw [isDig_eq] at hdg; simp at hdg; omega
       have HN : Hid (scan false false [] 0 s.data.toList = (sm, ds, dp, s.data.toList.drop k)) := Lib.hid (by rw [H.out, hdr.out, scan, if_neg h95, if_neg h46, if_neg hdg])
       have q : (c = 46 ∧ dot = true) ∨ (((c.toNat : Int) == 46) = false ∧ (c.toNat : Int) < 48) ∨ 57 < (c.toNat : Int) := by
        by_cases h : c = 46
        ·left
         refine ⟨h, ?_⟩
         cases dot
         ·exact absurd ⟨h, rfl⟩ h46
         ·rfl
        ·right
         have := byte_ne (d := 46) h
         by_cases h2 : (c.toNat : Int) < 48
         ·exact Or.inl ⟨this, h2⟩
         ·right; omega
       clear H hdg hdg2 h46 g46
       rcases q with ⟨rfl, rfl⟩ | ⟨q1, q⟩ | q
       all_goals
        go_wp2
        go_meet
        case rel => exact ⟨rfl, k, sm, ds, dp, v, rfl, rfl, by omega, by omega, by omega, by omega, HD, HN⟩
   ·have HN : Hid (scan false false [] 0 s.data.toList = (sm, ds, dp, s.data.toList.drop k)) := Lib.hid (by
     rw [H.out, List.drop_eq_nil_of_le (by have := HSL.out; omega)]; rfl)
    clear H
    go_wp2
    go_meet
    case rel => exact ⟨rfl, k, sm, ds, dp, v, rfl, rfl, by omega, by omega, by omega, by omega, HD, HN⟩
 case rest =>
 obtain ⟨rfl, k, sm, ds, dp, v, rfl, rfl, hk, hdl, hdp1, hdp2, HD, H⟩ := hcut
 clear hd0 hb0 hg0
 cases sm
 ·have HRP : Hid (readP s.data.toList = none) := Lib.hid (by unfold readP; rw [H.out]; rfl)
  clear H
  go_wp2
  go_ret2
  exact readPost_none HGS.out HD.out.2 HRP.out
 have HRP : Hid (readP s.data.toList = (expR (s.data.toList.drop k)).map fun e => (ds, dp + e)) := Lib.hid (by unfold readP; rw [H.out]; rfl)
 clear H
 go_upto_region 37 with fail
 generalize hwc : wc = W1 at *
 go_cut [143] from 132 to 142 (fun x wc => x = .bool (isE (s.data.toList.drop k)) ∧ W1 = wc)
 case first =>
  by_cases hlt : k < s.size
  ·have hdr := drop_cons s k hlt
   generalize hc : s[k] = c at *
   have HI : Hid (isE (s.data.toList.drop k) = decide (c = 101 ∨ c = 69)) := Lib.hid (by rw [hdr]; rfl)
   clear hdr
   by_cases he : c = 101 ∨ c = 69
   ·have k1 : ((c ||| 32).toNat : Int) = 101 := by rw [(lower_e c).2 he]; rfl
    have L := fun w => lower_any c w
    have HI2 : Hid (isE (s.data.toList.drop k) = true) := Lib.hid (by rw [HI.out]; simp [he])
    clear HI he
    generalize (c ||| 32).toNat = lb at *
    go_wp2_with fail
    refine (L _).mono ?_
    rintro e w' ⟨rfl, rfl⟩
    go_wp2
    go_meet
    case rel => exact ⟨by rw [HI2.out], rfl⟩
   ·have k1 : (((c ||| 32).toNat : Int) == 101) = false := byte_ne (d := 101) (fun h => he ((lower_e c).1 h))
    have L := fun w => lower_any c w
    have HI2 : Hid (isE (s.data.toList.drop k) = false) := Lib.hid (by rw [HI.out]; simp [he])
    clear HI he
    generalize (c ||| 32).toNat = lb at *
    go_wp2_with fail
    refine (L _).mono ?_
    rintro e w' ⟨rfl, rfl⟩
    go_wp2
    go_meet
    case rel => exact ⟨by rw [HI2.out], rfl⟩
  ·have HI2 : Hid (isE (s.data.toList.drop k) = false) := Lib.hid (by rw [List.drop_eq_nil_of_le (by have := HSL.out; omega)]; rfl)
   go_wp2
   go_meet
   case rel => exact ⟨by rw [HI2.out], rfl⟩
 case rest =>
 obtain ⟨rfl, rfl⟩ := hcut
 go_upto_if 143 with fail
 go_cut [10, 11, 14, 15] from 143 to 236 (fun E i _ _ wc => ∃ (e' : Int) (j : Nat), E = .int .i64 e' ∧ i = .int .i64 j ∧ j ≤ s.size ∧ -100000 ≤ e' ∧ e' ≤ 100000 ∧ Hid (expR (s.data.toList.drop k) = if j = s.size then some e' else none) ∧ W1 = wc)
 case first =>
  cases hE : isE (s.data.toList.drop k)
  ·have HX : Hid (expR (s.data.toList.drop k) = if k = s.size then some 0 else none) := Lib.hid (by
    by_cases hlt : k < s.size
    ·rw [drop_cons s k hlt] at hE ⊢
     have : ¬ (s[k] = 101 ∨ s[k] = 69) := by simpa [isE] using hE
     rw [if_neg (by omega)]
     unfold expR
     simp only [if_neg this]
    ·rw [List.drop_eq_nil_of_le (by have := HSL.out; omega), if_pos (by omega)]; rfl)
   clear hE
   go_wp2
   go_meet
   case rel => exact ⟨0, k, rfl, rfl, hk, by omega, by omega, HX, rfl⟩
  ·have hlt : k < s.size := by
    rcases Nat.lt_or_ge k s.size with h | h
    ·exact h
    ·rw [List.drop_eq_nil_of_le (by have := HSL.out; omega)] at hE; cases hE
   have hdr := drop_cons s k hlt
   have HXR : Hid (expR (s.data.toList.drop k) = (if hd (sgn (s.data.toList.drop (k + 1))).1 = true ∧ (expGo 0 (sgn (s.data.toList.drop (k + 1))).1).2 = [] then some (if (sgn (s.data.toList.drop (k + 1))).2.1 = true then -((expGo 0 (sgn (s.data.toList.drop (k + 1))).1).1 : Int) else ((expGo 0 (sgn (s.data.toList.drop (k + 1))).1).1 : Int)) else none)) := Lib.hid (by
    rw [hdr] at hE ⊢
    have : s[k] = 101 ∨ s[k] = 69 := by simpa [isE] using hE
    unfold expR
    simp only [if_pos this])
   clear hE hdr
   go_upto_region 39 with fail
   go_cut [14] from 146 to 155 (fun x wc => x = .bool (sgn (s.data.toList.drop (k + 1))).2.1 ∧ W1 = wc)
   case first =>
    by_cases hlt2 : k + 1 < s.size
    ·have hdr := drop_cons s (k + 1) hlt2
     generalize hc : s[k + 1] = c at *
     have hlti : (k : Int) + 1 < (s.size : Int) := by omega
     have f1 := show ((c.toNat : Int) == 45) = decide (c = 45) from byte_dec c 45
     have HS : Hid ((sgn (s.data.toList.drop (k + 1))).2.1 = decide (c = 45)) := Lib.hid (by
      rw [hdr, sgn_cons]
      by_cases h1 : c = 45
      ·simp [h1]
      ·rw [if_neg h1]; split <;> simp [h1])
     clear hdr
     go_wp2
     go_meet
     case rel => exact ⟨by rw [HS.out], rfl⟩
    ·have hge : (s.size : Int) ≤ (k : Int) + 1 := by omega
     have HS : Hid ((sgn (s.data.toList.drop (k + 1))).2.1 = false) := Lib.hid (by rw [List.drop_eq_nil_of_le (by have := HSL.out; omega)]; rfl)
     go_wp2
     go_meet
     case rel => exact ⟨by rw [HS.out], rfl⟩
   case rest =>
   obtain ⟨rfl, rfl⟩ := hcut
   go_upto_region 40 with fail
   go_cut [171] from 156 to 170 (fun x wc => x = .bool (sgn (s.data.toList.drop (k + 1))).2.2 ∧ W1 = wc)
   case first =>
    by_cases hlt2 : k + 1 < s.size
    ·have hdr := drop_cons s (k + 1) hlt2
     generalize hc : s[k + 1] = c at *
     have hlti : (k : Int) + 1 < (s.size : Int) := by omega
     have f1 := show ((c.toNat : Int) == 45) = decide (c = 45) from byte_dec c 45
     have f2 := show ((c.toNat : Int) == 43) = decide (c = 43) from byte_dec c 43
     by_cases h2 : c = 43
     ·have HS : Hid ((sgn (s.data.toList.drop (k + 1))).2.2 = true) := Lib.hid (by rw [hdr, sgn_cons, h2]; rfl)
      clear hdr f1
      rw [show decide (c = 43) = true by simp [h2]] at f2
      go_wp2
      go_meet
      case rel => exact ⟨by rw [HS.out], rfl⟩
     ·have HS : Hid ((sgn (s.data.toList.drop (k + 1))).2.2 = decide (c = 45)) := Lib.hid (by
       rw [hdr, sgn_cons]
       by_cases h1 : c = 45
       ·simp [h1]
       ·rw [if_neg h1, if_neg h2]; simp [h1])
      clear hdr
      rw [show decide (c = 43) = false by simp [h2]] at f2
      go_wp2
      go_meet
      case rel => exact ⟨by rw [HS.out], rfl⟩
    ·have hge : (s.size : Int) ≤ (k : Int) + 1 := by omega
     have HS : Hid ((sgn (s.data.toList.drop (k + 1))).2.2 = false) := Lib.hid (by rw [List.drop_eq_nil_of_le (by have := HSL.out; omega)]; rfl)
     go_wp2
     go_meet
     case rel => exact ⟨by rw [HS.out], rfl⟩
   case rest =>
   obtain ⟨rfl, rfl⟩ := hcut
   go_upto_if 171 with fail
   go_cut [11] from 171 to 173 (fun i wc => ∃ j0 : Nat, i = .int .i64 j0 ∧ k + 1 ≤ j0 ∧ j0 ≤ s.size ∧ Hid ((sgn (s.data.toList.drop (k + 1))).1 = s.data.toList.drop j0) ∧ W1 = wc)
   case first =>
    cases hb : (sgn (s.data.toList.drop (k + 1))).2.2
    ·have HS : Hid ((sgn (s.data.toList.drop (k + 1))).1 = s.data.toList.drop (k + 1)) := Lib.hid (sgn_none hb)
     clear hb
     go_wp2
     go_meet
     case rel => exact ⟨k + 1, by go_num, by omega, by omega, HS, rfl⟩
    ·have hlt2 : k + 1 < s.size := by
      rcases Nat.lt_or_ge (k + 1) s.size with h | h
      ·exact h
      ·rw [List.drop_eq_nil_of_le (by have := HSL.out; omega)] at hb; cases hb
     have HS : Hid ((sgn (s.data.toList.drop (k + 1))).1 = s.data.toList.drop (k + 1 + 1)) := Lib.hid (by rw [sgn_some hb, List.drop_drop])
     clear hb
     go_wp2
     go_meet
     case rel => exact ⟨k + 1 + 1, by go_num, by omega, by omega, HS, rfl⟩
   case rest =>
   obtain ⟨j0, rfl, hj01, hj02, HJ, rfl⟩ := hcut
   go_upto_region 42 with fail
   go_cut [189] from 174 to 188 (fun x wc => x = .bool (!hd (s.data.toList.drop j0)) ∧ W1 = wc)
   case first =>
    by_cases hlt2 : j0 < s.size
    ·have hdr := drop_cons s j0 hlt2
     generalize hc : s[j0] = c at *
     have hlti : (j0 : Int) < (s.size : Int) := by omega
     have HS : Hid (hd (s.data.toList.drop j0) = isDig c) := Lib.hid (by rw [hdr]; rfl)
     clear hdr
     by_cases hdg : isDig c = true
     ·have hdg2 : 48 ≤ (c.toNat : Int) ∧ (c.toNat : Int) ≤ 57 := by rw [isDig_eq] at hdg; simp at hdg; omega
      have HS2 : Hid (hd (s.data.toList.drop j0) = true) := Lib.hid (by rw [HS.out, hdg])
      clear HS hdg
      go_wp2
      go_meet
      case rel => exact ⟨by rw [HS2.out]; first | rfl | (congr 1; simp; omega), rfl⟩
     ·have hdg2 : ¬ (48 ≤ (c.toNat : Int) ∧ (c.toNat : Int) ≤ 57) := by rw [isDig_eq] at hdg; simp at hdg; omega
      have HS2 : Hid (hd (s.data.toList.drop j0) = false) := Lib.hid (by rw [HS.out]; simpa using hdg)
      have q : (c.toNat : Int) < 48 ∨ 57 < (c.toNat : Int) := by omega
      clear HS hdg hdg2
      rcases q with q | q
      all_goals
       go_wp2
       go_meet
       case rel => exact ⟨by rw [HS2.out]; first | rfl | (congr 1; simp; omega), rfl⟩
    ·have hge : (s.size : Int) ≤ (j0 : Int) := by omega
     have HS : Hid (hd (s.data.toList.drop j0) = false) := Lib.hid (by rw [List.drop_eq_nil_of_le (by have := HSL.out; omega)]; rfl)
     go_wp2
     go_meet
     case rel => exact ⟨by rw [HS.out]; rfl, rfl⟩
   case rest =>
   obtain ⟨rfl, rfl⟩ := hcut
   cases hH : hd (s.data.toList.drop j0)
   ·have HR2 : Hid (readP s.data.toList = none) := Lib.hid (by
     rw [HRP.out, HXR.out, HJ.out, if_neg (by rw [hH]; simp)]; rfl)
    clear hH HXR
    go_upto_if 189 with fail
    go_wp2
    go_ret2
    exact readPost_none HGS.out HD.out.2 HR2.out
   ·have HXR2 : Hid (expR (s.data.toList.drop k) = (if (expGo 0 (s.data.toList.drop j0)).2 = [] then some (if (sgn (s.data.toList.drop (k + 1))).2.1 = true then -((expGo 0 (s.data.toList.drop j0)).1 : Int) else ((expGo 0 (s.data.toList.drop j0)).1 : Int)) else none)) := Lib.hid (by
     rw [HXR.out, HJ.out, hH]; simp)
    clear hH HXR
    generalize (sgn (s.data.toList.drop (k + 1))).2.1 = dn at *
    go_upto_region 45 with fail
    go_loop [11, 15] (fun i z => ∃ (j e : Nat), i = .int .i64 j ∧ z = .int .i64 e ∧ j ≤ s.size ∧ e ≤ 99999 ∧ Hid (expGo 0 (s.data.toList.drop j0) = expGo e (s.data.toList.drop j))) (fun i _ => s.size - (intOf i).toNat)
    case atStart => exact ⟨j0, 0, rfl, rfl, hj02, by omega, Lib.hid rfl⟩
    case round =>
     obtain ⟨j, e, rfl, rfl, hj, he, HE⟩ := hrel
     by_cases hlt3 : j < s.size
     ·have hdr := Lib.hid (drop_cons s j hlt3)
      generalize hc : s[j] = c at *
      have hlti : (j : Int) < (s.size : Int) := by omega
      by_cases hdg : isDig c = true
      ·have hdg2 : 48 ≤ (c.toNat : Int) ∧ (c.toNat : Int) ≤ 57 := by rw [isDig_eq] at hdg; simp at hdg; omega
       have h95 : ((c.toNat : Int) != 95) = true := by rw [bne_iff_ne]; omega
       by_cases h10 : e < 10000
       ·have HN : Hid (expGo 0 (s.data.toList.drop j0) = expGo (e * 10 + (c.toNat - 48)) (s.data.toList.drop (j + 1))) := Lib.hid (by
         rw [HE.out, hdr.out, expGo, if_pos hdg, if_pos h10])
        have h10i : (e : Int) < 10000 := by omega
        clear HE hdg
        go_wp2
        go_round
        case rel => exact ⟨j + 1, e * 10 + (c.toNat - 48), by go_num, by go_num, by omega, by omega, HN⟩
        case measure => simp [intOf]; omega
       ·have HN : Hid (expGo 0 (s.data.toList.drop j0) = expGo e (s.data.toList.drop (j + 1))) := Lib.hid (by
         rw [HE.out, hdr.out, expGo, if_pos hdg, if_neg h10])
        have h10i : (10000 : Int) ≤ (e : Int) := by omega
        clear HE hdg
        go_wp2
        go_round
        case rel => exact ⟨j + 1, e, by go_num, rfl, by omega, by omega, HN⟩
        case measure => simp [intOf]; omega
      ·have hdg2 : ¬ (48 ≤ (c.toNat : Int) ∧ (c.toNat : Int) ≤ 57) := by rw [isDig_eq] at hdg; simp at hdg; omega
       by_cases h95 : c = 95
       ·subst h95
        have HN : Hid (expGo 0 (s.data.toList.drop j0) = expGo e (s.data.toList.drop (j + 1))) := Lib.hid (by
         rw [HE.out, hdr.out, expGo, if_neg hdg, if_pos rfl])
        clear HE hdg hdg2
        go_wp2
        go_round
        case rel => exact ⟨j + 1, e, by go_num, rfl, by omega, by omega, HN⟩
        case measure => simp [intOf]; omega
       ·have k95 : ((c.toNat : Int) == 95) = false := byte_ne (d := 95) h95
        have HX2 : Hid (expR (s.data.toList.drop k) = none) := Lib.hid (by
         rw [HXR2.out, HE.out, hdr.out, expGo, if_neg hdg, if_neg h95, if_neg (by simp)])
        have HX3 : ∀ q, Hid (expR (s.data.toList.drop k) = if j = s.size then some q else none) := fun q => Lib.hid (by rw [HX2.out, if_neg (by omega)])
        have q : (c.toNat : Int) < 48 ∨ 57 < (c.toNat : Int) := by omega
        clear HE hdg hdg2 HXR2 HX2 h95
        rcases q with q | q
        all_goals
         cases dn
         all_goals
          go_wp2
          go_meet
          case rel => exact ⟨_, j, rfl, rfl, by omega, by omega, by omega, HX3 _, rfl⟩
     ·have hge : (s.size : Int) ≤ (j : Int) := by omega
      have hjs : j = s.size := by omega
      have hnil : s.data.toList.drop j = [] := List.drop_eq_nil_of_le (by have := HSL.out; omega)
      cases dn
      ·have HX3 : Hid (expR (s.data.toList.drop k) = if j = s.size then some (e : Int) else none) := Lib.hid (by rw [HXR2.out, HE.out, hnil, if_pos hjs]; simp [expGo])
       clear HE HXR2 hnil
       go_wp2
       go_meet
       case rel => exact ⟨e, j, by go_num, by rw [hjs], by omega, by omega, by omega, HX3, rfl⟩
      ·have HX3 : Hid (expR (s.data.toList.drop k) = if j = s.size then some (-(e : Int)) else none) := Lib.hid (by rw [HXR2.out, HE.out, hnil, if_pos hjs]; simp [expGo])
       clear HE HXR2 hnil
       go_wp2
       go_meet
       case rel => exact ⟨-(e : Int), j, by go_num, by rw [hjs], by omega, by omega, by omega, HX3, rfl⟩
 case rest =>
 obtain ⟨e', j, rfl, rfl, hj, he1, he2, HX, rfl⟩ := hcut
 obtain ⟨D1, B1⟩ := HD.out
 by_cases hjs : j = s.size
 ·have HR2 : Hid (readP s.data.toList = some (ds, dp + e')) := Lib.hid (by rw [HRP.out, HX.out, if_pos hjs]; rfl)
  have hge : (s.size : Int) ≤ (j : Int) := by omega
  have f1 := D1.f1
  have c1 := D1.c1
  have D2 := D1.setDp (dp + e')
  have B2 := below_setCell (o := 1) B1 (Nat.le_refl g) (.int .i64 (dp + e'))
  have HLN : Hid (ds.length ≤ s.data.toList.length) := Lib.hid (by have := HSL.out; omega)
  clear HX HRP
  go_wp2_with fail
  refine (trim_any g g v ds _ _ D2).mono ?_
  rintro e w' ⟨rfl, hb4, hs4, v', hd4⟩
  have HB5 : Hid (Below g w w') := Lib.hid (B2.trans (hb4.below (Nat.le_refl _) (by have := D2.lt; omega)))
  go_wp2
  go_ret2
  exact readPost_some HGS.out HB5.out HR2.out HLN.out hd4
 ·have HR2 : Hid (readP s.data.toList = none) := Lib.hid (by rw [HRP.out, HX.out, if_neg hjs]; rfl)
  have hlt : (j : Int) < (s.size : Int) := by omega
  clear HX HRP
  go_wp2
  go_ret2
  exact readPost_none HGS.out B1 HR2.out
end Go.Proofs.YtillamhoakohdaaGreatDoor
