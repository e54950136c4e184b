/-
  Walks: the reference's whole numbers. Walks: the reference's whole numbers with their signs. Walks: the reference's whole numbers, whole.
-/
import Derived.Deep.Cut
import Derived.Test.YtillamhoakohdaaGreatDoorM04
set_option linter.unusedVariables false
set_option linter.unusedSimpArgs false
namespace Go.Proofs.YtillamhoakohdaaGreatDoor
open Go.RowKit

set_option maxHeartbeats 400000 in
theorem ylDigit_any (c : Int) (w : World) (h0 : 0 ≤ c) (h1 : c < 256) :
  Calls Tryz.prog 97 #[.int .u8 c] w fun e w' => e = .returned (.int .u64 (digV c)) ∧ w = w' := by
 go_enter Tryz.func97, Tryz.ntmps97
 go_wp2
 all_goals
  go_ret
  exact ⟨ret_int (by unfold digV; first | omega | (split <;> (try split) <;> (try split) <;> omega)), rfl⟩

def AmtPost (l : Bs) (b : Int) (w : World) (e : Ending) (w' : World) : Prop :=
 w = w' ∧ ((amount l b = none ∧ ∃ m, e = .returned (.tuple #[.int .u64 m, .bool false])) ∨ ∃ n, amount l b = some n ∧ 0 ≤ n ∧ Hid (n ≤ 18446744073709551615) ∧ e = .returned (.tuple #[.int .u64 n, .bool true]))

theorem amtPost_none {l : Bs} {b m : Int} {w : World} (h : amount l b = none) : AmtPost l b w (.returned (.tuple #[.int .u64 m, .bool false])) w := ⟨rfl, .inl ⟨h, m, rfl⟩⟩
theorem amtPost_some {l : Bs} {b n : Int} {w : World} {t : Bool} (hb : 2 ≤ b) (h : amt b 0 l = some n) (ht : t = !l.isEmpty) : AmtPost l b w (.returned (.tuple #[.int .u64 n, .bool t])) w := by
 have hn := amt_bd b hb l 0 n (by omega) (by omega) h
 cases l with
 | nil => subst ht; exact ⟨rfl, .inl ⟨rfl, n, rfl⟩⟩
 | cons c l => subst ht; exact ⟨rfl, .inr ⟨n, by simp [amount, h], hn.1, Lib.hid hn.2, rfl⟩⟩

set_option maxHeartbeats 400000 in
set_option maxRecDepth 100000 in
theorem ylAmount_any (s : ByteArray) (l : Bs) (b : Int) (w : World) (hl : StrIs s l) (hs : s.size ≤ maxLen) (h0 : 2 ≤ b) (h1 : b ≤ 36) :
  Calls Tryz.prog 51 #[.string s, .int .u64 b] w (AmtPost l b w) := by
 unfold maxLen at hs
 unfold StrIs at hl
 subst hl
 go_enter Tryz.func51, Tryz.ntmps51
 go_wp2
 go_loop [6, 7, 8] (fun n i _ => ∃ (k : Nat) (a : Int), k ≤ s.size ∧ i = .int .i64 k ∧ n = .int .u64 a ∧ 0 ≤ a ∧ Hid (a ≤ 18446744073709551615) ∧ Hid (amt b 0 s.data.toList = amt b a (s.data.toList.drop k))) (fun _ i _ => s.size - (intOf i).toNat)
 case atStart => exact ⟨0, 0, Nat.zero_le _, rfl, rfl, by omega, Lib.hid (by omega), Lib.hid rfl⟩
 case round =>
  obtain ⟨k, a, hk, rfl, rfl, ha0, ha1, H⟩ := hrel
  by_cases hlt : k < s.size
  ·have hd := digV_bd s[k].toNat
   have hc : (s[k].toNat : Int) < 256 := byte_lt _
   have hdr := Lib.hid (drop_cons s k hlt)
   go_wp2_with (go_at_call 97; refine (ylDigit_any _ _ (by omega) (by omega)).mono ?_; rintro e w' ⟨rfl, rfl⟩)
   ·go_ret2
    have h2 : b ≤ digV ↑s[k].toNat ∨ (18446744073709551615 - digV ↑s[k].toNat) / b < a := by assumption
    refine amtPost_none ?_
    unfold amount
    rw [if_neg (by intro e; have := hdr.out; simp [e] at this), H.out, hdr.out]
    exact amt_none h2
   ·have h2 : digV ↑s[k].toNat < b ∧ a ≤ (18446744073709551615 - digV ↑s[k].toNat) / b := by assumption
    have h3 := amt_fits h0 ha0 hd.1 h2.2
    have e1 : IntKind.u64.wrap (IntKind.u64.wrap (a * b) + digV ↑s[k].toNat) = a * b + digV ↑s[k].toNat := by
     rw [show IntKind.u64.wrap (a * b) = a * b from IntWalk.u64_in _ (by omega), IntWalk.u64_in _ (by omega)]
    go_round
    case rel =>
     exact ⟨k + 1, a * b + digV ↑s[k].toNat, by omega, by go_num, by rw [e1], by omega, Lib.hid h3.2, Lib.hid (by rw [H.out, hdr.out, amt_some h2])⟩
    case measure => simp [intOf]; omega
   ·go_ret2
    have h2 : b ≤ digV ↑s[k].toNat := by assumption
    refine amtPost_none ?_
    unfold amount
    rw [if_neg (by intro e; have := hdr.out; simp [e] at this), H.out, hdr.out]
    exact amt_none (.inl h2)
  ·go_wp2
   go_ret2
   refine amtPost_some h0 ?_ (by rw [Lib.toList_data])
   rw [H.out, List.drop_eq_nil_of_le (by have := Lib.size_eq s; omega)]
   rfl

def SgnPost (l : Bs) (w : World) (e : Ending) (w' : World) : Prop :=
 Drew w w' ∧ ∃ r, StrIs r (sgn l).1 ∧ e = .returned (.tuple #[.string r, .bool (sgn l).2.1, .bool (sgn l).2.2])

set_option maxHeartbeats 400000 in
theorem ylSign_any (s : ByteArray) (l : Bs) (w : World) (hl : StrIs s l) (hs : s.size ≤ maxLen) :
  Calls Tryz.prog 58 #[.string s] w (SgnPost l w) := by
 unfold maxLen at hs
 cases l with
 | nil =>
  have he : s.toList = [] := by rw [Lib.toList_data]; exact hl
  have he2 : s.toList.isEmpty = true := by rw [he]; rfl
  go_enter Tryz.func58, Tryz.ntmps58
  go_wp2
  go_ret3
  exact ⟨Drew.refl _, s, hl, rfl⟩
 | cons c l =>
  obtain ⟨h0, e0⟩ := hl.cons
  have he : s.toList.isEmpty = false := by rw [Lib.toList_data, hl]; rfl
  have he2 : (!s.toList.isEmpty) = true := by rw [he]; rfl
  by_cases h1 : c = 45
  ·subst h1
   go_enter Tryz.func58, Tryz.ntmps58
   go_wp2
   go_quiet (fail)
   go_wp2
   go_ret3
   exact ⟨⟨_, rfl⟩, _, hl.drop 1, rfl⟩
  ·by_cases h2 : c = 43
   ·subst h2
    go_enter Tryz.func58, Tryz.ntmps58
    go_wp2
    go_quiet (fail)
    go_wp2
    go_ret3
    exact ⟨⟨_, rfl⟩, _, hl.drop 1, rfl⟩
   ·have f1 := show ((c.toNat : Int) == 45) = false from byte_ne h1
    have f2 := show ((c.toNat : Int) == 43) = false from byte_ne h2
    go_enter Tryz.func58, Tryz.ntmps58
    go_wp2
    go_ret3
    exact ⟨Drew.refl _, _, by simpa [sgn, h1, h2] using hl, by simp [sgn, h1, h2]⟩

def BasedPost (l : Bs) (w : World) (e : Ending) (w' : World) : Prop :=
 w = w' ∧ ∃ r, StrIs r (based l).1 ∧ e = .returned (.tuple #[.string r, .int .u64 (based l).2])

theorem basedPost_mk {l l' : Bs} {r : ByteArray} {b : Int} {w : World} (h : StrIs r l') (h1 : (based l).1 = l') (h2 : b = (based l).2) : BasedPost l w (.returned (.tuple #[.string r, .int .u64 b])) w :=
 ⟨rfl, r, h1 ▸ h, by rw [h2]⟩

set_option maxHeartbeats 800000 in
theorem ylBased_any (s : ByteArray) (l : Bs) (w : World) (hl : StrIs s l) (hs : s.size ≤ maxLen) :
  Calls Tryz.prog 59 #[.string s] w (BasedPost l w) := by
 unfold maxLen at hs
 have hz := hl.size
 match l, hl with
 | [], hl =>
  have hz : s.size = 0 := by rw [hl.size]; rfl
  go_enter Tryz.func59, Tryz.ntmps59
  go_wp2
  go_ret2
  exact ⟨rfl, s, hl, rfl⟩
 | [c], hl =>
  have hz : s.size = 1 := by rw [hl.size]; rfl
  go_enter Tryz.func59, Tryz.ntmps59
  go_wp2
  go_ret2
  exact ⟨rfl, s, hl, rfl⟩
 | c0 :: c :: r, hl =>
  obtain ⟨h0, h1, e0, e1⟩ := hl.cons2
  clear hz
  by_cases k0 : c0 = 48
  ·subst k0
   have f1 := show ((c.toNat : Int) == 120) = decide (c = 120) from byte_dec c 120
   have f2 := show ((c.toNat : Int) == 88) = decide (c = 88) from byte_dec c 88
   have f3 := show ((c.toNat : Int) == 111) = decide (c = 111) from byte_dec c 111
   have f4 := show ((c.toNat : Int) == 79) = decide (c = 79) from byte_dec c 79
   have f5 := show ((c.toNat : Int) == 98) = decide (c = 98) from byte_dec c 98
   have f6 := show ((c.toNat : Int) == 66) = decide (c = 66) from byte_dec c 66
   go_enter Tryz.func59, Tryz.ntmps59
   go_wp2
   all_goals
    go_ret2
    go_light
    clear f1 f2 f3 f4 f5 f6 e0 e1
    first
    | exact basedPost_mk (hl.drop 2) (by simp [based, *]) (by simp [based, *])
    | exact basedPost_mk (hl.drop 1) (by simp [based, *]) (by simp [based, *])
  ·have f1 := show ((c0.toNat : Int) == 48) = false from byte_ne k0
   go_enter Tryz.func59, Tryz.ntmps59
   go_wp2
   go_ret2
   exact ⟨rfl, s, by simpa [based, k0] using hl, by simp [based, k0]⟩
end Go.Proofs.YtillamhoakohdaaGreatDoor
namespace Go.Proofs.YtillamhoakohdaaGreatDoor
open Go.RowKit

def SignedPost (neg sign : Bool) (n : Int) (w : World) (e : Ending) (w' : World) : Prop :=
 Below w.heap.size w w' ∧ ((signed neg sign n = none ∧ e = .returned (.tuple #[vAgg 0 false 0 0 0 ⟨#[]⟩ 0 0 0 0 0 0 0 0, .bool false])) ∨
  (∃ i, signed neg sign n = some (.int i) ∧ e = .returned (.tuple #[vAgg 2 false i 0 0 ⟨#[]⟩ 0 0 0 0 0 0 0 0, .bool true])) ∨
  (∃ i, signed neg sign n = some (.uint i) ∧ e = .returned (.tuple #[vAgg 3 false 0 i 0 ⟨#[]⟩ 0 0 0 0 0 0 0 0, .bool true])))

theorem neg_wrap (n : Int) (h0 : 0 ≤ n) (h1 : n ≤ 9223372036854775808) : wrap64 (IntKind.u64.wrap (-n)) = -n := by
 by_cases h : n = 0
 ·subst h; simp [wrap64, IntKind.wrap, IntKind.bits, IntKind.signed]
 ·have e1 : IntKind.u64.wrap (-n) = 18446744073709551616 - n := by
   rw [IntKind.wrap_u64]; omega
  rw [e1]; unfold wrap64; omega

set_option maxHeartbeats 800000 in
set_option maxRecDepth 100000 in
theorem ylSigned_any (neg sign : Bool) (n : Int) (w : World) (h0 : 0 ≤ n) (h1 : Hid (n ≤ 18446744073709551615)) :
  Calls Tryz.prog 60 #[.bool neg, .bool sign, .int .u64 n] w (SignedPost neg sign n w) := by
 have fin : ∀ (cs : Array Value), Below w.heap.size w (w.alloc (.cells cs 28)) := fun _ => (Below.refl _ _).alloc (Nat.le_refl _) _
 cases neg
 ·by_cases hn : n < 9223372036854775808
  ·go_enter Tryz.func60, Tryz.ntmps60
   go_wp2
   refine bodyPost_ret (v := .tuple #[vAgg 2 false n 0 0 ⟨#[]⟩ 0 0 0 0 0 0 0 0, .bool true]) (results_28 Tryz.results60 _ _ _ _ _ _ rfl (heap_alloc_new _ _) rfl) rfl ⟨fin _, ?_⟩
   exact .inr (.inl ⟨n, by simp [signed, hn], rfl⟩)
  ·have hn2 : (decide (n < 9223372036854775808)) = false := by simpa using hn
   cases sign
   ·go_enter Tryz.func60, Tryz.ntmps60
    go_wp2
    refine bodyPost_ret (v := .tuple #[vAgg 3 false 0 n 0 ⟨#[]⟩ 0 0 0 0 0 0 0 0, .bool true]) (results_28 Tryz.results60 _ _ _ _ _ _ rfl (heap_alloc_new _ _) rfl) rfl ⟨fin _, ?_⟩
    exact .inr (.inr ⟨n, by simp [signed, hn], rfl⟩)
   ·go_enter Tryz.func60, Tryz.ntmps60
    go_wp2
    refine bodyPost_ret (v := .tuple #[vAgg 0 false 0 0 0 ⟨#[]⟩ 0 0 0 0 0 0 0 0, .bool false]) (results_28 Tryz.results60 _ _ _ _ _ _ rfl (heap_alloc_new _ _) rfl) rfl ⟨fin _, ?_⟩
    exact .inl ⟨by simp [signed, hn], rfl⟩
 ·by_cases hn : n ≤ 9223372036854775808
  ·have hw := Lib.hid (neg_wrap n h0 hn)
   go_enter Tryz.func60, Tryz.ntmps60
   go_wp2
   refine bodyPost_ret (v := .tuple #[vAgg 2 false (-n) 0 0 ⟨#[]⟩ 0 0 0 0 0 0 0 0, .bool true]) ((results_28 Tryz.results60 _ _ _ _ _ _ rfl (heap_alloc_new _ _) rfl).trans (by rw [hw.out]; rfl)) rfl ⟨fin _, ?_⟩
   exact .inr (.inl ⟨-n, by simp [signed, hn], rfl⟩)
  ·have hn2 : (decide (n ≤ 9223372036854775808)) = false := by simpa using hn
   cases sign
   ·go_enter Tryz.func60, Tryz.ntmps60
    go_wp2
    refine bodyPost_ret (v := .tuple #[vAgg 3 false 0 n 0 ⟨#[]⟩ 0 0 0 0 0 0 0 0, .bool true]) (results_28 Tryz.results60 _ _ _ _ _ _ rfl (heap_alloc_new _ _) rfl) rfl ⟨fin _, ?_⟩
    exact .inr (.inr ⟨n, by simp [signed, hn], rfl⟩)
   ·go_enter Tryz.func60, Tryz.ntmps60
    go_wp2
    refine bodyPost_ret (v := .tuple #[vAgg 0 false 0 0 0 ⟨#[]⟩ 0 0 0 0 0 0 0 0, .bool false]) (results_28 Tryz.results60 _ _ _ _ _ _ rfl (heap_alloc_new _ _) rfl) rfl ⟨fin _, ?_⟩
    exact .inl ⟨by simp [signed, hn], rfl⟩
end Go.Proofs.YtillamhoakohdaaGreatDoor
namespace Go.Proofs.YtillamhoakohdaaGreatDoor
open Go.RowKit

theorem StrIs.le {s : ByteArray} {l : Bs} (h : StrIs s l) {n : Nat} (hn : l.length ≤ n) : s.size ≤ n := by rw [h.size]; exact hn
theorem sgn_len (l : Bs) : (sgn l).1.length ≤ l.length := by
 unfold sgn; split
 ·split
  ·simp
  ·split <;> simp
 ·simp
theorem based_len (l : Bs) : (based l).1.length ≤ l.length := by
 unfold based; split
 ·split
  ·split
   ·simp; omega
   ·split
    ·simp; omega
    ·split <;> simp <;> omega
  ·simp
 ·simp
theorem based_base (l : Bs) : 2 ≤ (based l).2 ∧ (based l).2 ≤ 36 := by
 unfold based; split
 ·split
  ·split
   ·simp
   ·split
    ·simp
    ·split <;> simp
  ·simp
 ·simp

def WholeIs (o : Option PV) (e : Ending) : Prop :=
 (o = none ∧ e = .returned (.tuple #[vAgg 0 false 0 0 0 ⟨#[]⟩ 0 0 0 0 0 0 0 0, .bool false])) ∨
  (∃ i, o = some (.int i) ∧ e = .returned (.tuple #[vAgg 2 false i 0 0 ⟨#[]⟩ 0 0 0 0 0 0 0 0, .bool true])) ∨
  (∃ i, o = some (.uint i) ∧ e = .returned (.tuple #[vAgg 3 false 0 i 0 ⟨#[]⟩ 0 0 0 0 0 0 0 0, .bool true]))
def WholePost (l : Bs) (w : World) (e : Ending) (w' : World) : Prop := Below w.heap.size w w' ∧ WholeIs (whole l) e

theorem whole_first {l : Bs} {v : PV} (h : (amount (based (sgn l).1).1 (based (sgn l).1).2).bind (signed (sgn l).2.1 (sgn l).2.2) = some v) : whole l = some v := by
 unfold whole; rw [h]
theorem whole_second {l : Bs} (h : (amount (based (sgn l).1).1 (based (sgn l).1).2).bind (signed (sgn l).2.1 (sgn l).2.2) = none) : whole l = whole2 l := by
 unfold whole; rw [h]

set_option maxHeartbeats 2000000 in
set_option maxRecDepth 100000 in
theorem ylWhole_any (s : ByteArray) (l : Bs) (w : World) (hl : StrIs s l) (hs : s.size ≤ maxLen) :
  Calls Tryz.prog 29 #[.string s] w (WholePost l w) := by
 have hs' := Lib.hid hs
 unfold maxLen at hs
 have hll : l.length ≤ maxLen := by rw [← hl.size]; exact hs'.out
 go_enter Tryz.func29, Tryz.ntmps29
 go_wp2_with fail
 refine (ylSign_any s l _ hl hs'.out).mono ?_
 rintro e w' ⟨⟨n, rfl⟩, r, hr, rfl⟩
 go_wp2_with fail
 refine (ylBased_any r _ _ hr (hr.le (Nat.le_trans (sgn_len l) hll))).mono ?_
 rintro e w' ⟨rfl, d, hd, rfl⟩
 go_wp2_with fail
 have hb := based_base (sgn l).1
 refine (ylAmount_any d _ _ _ hd (hd.le (Nat.le_trans (based_len _) (Nat.le_trans (sgn_len l) hll))) hb.1 hb.2).mono ?_
 have hg0 : ((w.alloc (.cells z28 28)).drewN n).heap[w.heap.size]? = some (.cells z28 28 (0, 0)) := heap_alloc_new _ _
 have hB0 : Below w.heap.size w ((w.alloc (.cells z28 28)).drewN n) := below_drewN ((Below.refl _ _).alloc (Nat.le_refl _) _) n
 have hz0 : ((w.alloc (.cells z28 28)).drewN n).heap.size = w.heap.size + 1 := by simp
 unfold z28 at hg0 hB0 hz0
 rintro e w' ⟨rfl, ⟨ha, m, rfl⟩ | ⟨m, ha, hm0, hm1, rfl⟩⟩
 all_goals
  generalize hW : ((w.alloc (.cells _ 28)).drewN n) = W at *
  have HZ : w.heap.size + 1 ≤ W.heap.size := by omega
  clear hz0 hW
 rotate_left
 ·go_wp2_with fail
  refine (ylSigned_any _ _ _ _ hm0 hm1).mono ?_
  rintro e w1 ⟨hb1, ⟨hv, rfl⟩ | ⟨i, hv, rfl⟩ | ⟨i, hv, rfl⟩⟩
  all_goals
   unfold vAgg
   have hg := hg_below hb1 (by omega) hg0
   have HB := hB0.trans (hb1.mono (B' := w.heap.size) (by omega))
   have HZ1 : w.heap.size + 1 ≤ w1.heap.size := by have := hb1.size; omega
   clear hg0 hB0 hb1 HZ
  rotate_left
  ·go_wp2_with (first
    | (refine store28 rfl _ _ rfl _ _ rfl rfl (by rfl) (by rfl) 28 _ (heap_alloc_new _ _) (by rfl) ?_; rw [World.setRow_alloc_new])
    | (refine load28 rfl _ rfl _ rfl 28 _ (0, 0) (heap_alloc_new _ _) (by rfl) ?_)
    | (refine store28 rfl _ _ rfl _ _ rfl rfl (by rfl) (by rfl) 28 _ (hg_alloc hg) (by rfl) ?_))
   exact bodyPost_ret (v := .tuple #[vAgg 2 false i 0 0 ⟨#[]⟩ 0 0 0 0 0 0 0 0, .bool true]) (results_28 Tryz.results29 _ _ _ _ _ _ rfl (row28_set _ _ _ _ (hg_alloc hg)) rfl) rfl ⟨below_setRow (HB.alloc (by omega) _) (Nat.le_refl _), .inr (.inl ⟨i, whole_first (by rw [ha]; exact hv), rfl⟩)⟩
  ·go_wp2_with (first
    | (refine store28 rfl _ _ rfl _ _ rfl rfl (by rfl) (by rfl) 28 _ (heap_alloc_new _ _) (by rfl) ?_; rw [World.setRow_alloc_new])
    | (refine load28 rfl _ rfl _ rfl 28 _ (0, 0) (heap_alloc_new _ _) (by rfl) ?_)
    | (refine store28 rfl _ _ rfl _ _ rfl rfl (by rfl) (by rfl) 28 _ (hg_alloc hg) (by rfl) ?_))
   exact bodyPost_ret (v := .tuple #[vAgg 3 false 0 i 0 ⟨#[]⟩ 0 0 0 0 0 0 0 0, .bool true]) (results_28 Tryz.results29 _ _ _ _ _ _ rfl (row28_set _ _ _ _ (hg_alloc hg)) rfl) rfl ⟨below_setRow (HB.alloc (by omega) _) (Nat.le_refl _), .inr (.inr ⟨i, whole_first (by rw [ha]; exact hv), rfl⟩)⟩
  ·go_upto_region 8 with (refine store28 rfl _ _ rfl _ _ rfl rfl (by rfl) (by rfl) 28 _ (heap_alloc_new _ _) (by rfl) ?_; rw [World.setRow_alloc_new])
   have HW := whole_second (l := l) (by rw [ha]; exact hv)
   have hg0 := hg_alloc (x := .cells z28 28) hg
   have hB0 := HB.alloc (show w.heap.size ≤ w1.heap.size by omega) (.cells z28 28)
   have HZ : w.heap.size + 1 ≤ (w1.alloc (.cells z28 28)).heap.size := by simp; omega
   unfold z28 at hg0 hB0 HZ
   generalize (w1.alloc (.cells _ 28)) = W2 at *
   clear hg HB HZ1
   match l, hl, HW with
   | [], hl, HW =>
    have hz : s.size < 3 := by rw [hl.size]; first | done | simp
    go_wp2_with (refine store28 rfl _ _ rfl _ _ rfl rfl (by rfl) (by rfl) 28 _ hg0 (by rfl) ?_)
    all_goals exact bodyPost_ret (v := .tuple #[vAgg 0 false 0 0 0 ⟨#[]⟩ 0 0 0 0 0 0 0 0, .bool false]) (results_28 Tryz.results29 _ _ _ _ _ _ rfl (row28_set _ _ _ _ hg0) rfl) rfl ⟨below_setRow hB0 (Nat.le_refl _), .inl ⟨by rw [HW]; rfl, rfl⟩⟩
   | [_], hl, HW =>
    have hz : s.size < 3 := by rw [hl.size]; first | done | simp
    go_wp2_with (refine store28 rfl _ _ rfl _ _ rfl rfl (by rfl) (by rfl) 28 _ hg0 (by rfl) ?_)
    all_goals exact bodyPost_ret (v := .tuple #[vAgg 0 false 0 0 0 ⟨#[]⟩ 0 0 0 0 0 0 0 0, .bool false]) (results_28 Tryz.results29 _ _ _ _ _ _ rfl (row28_set _ _ _ _ hg0) rfl) rfl ⟨below_setRow hB0 (Nat.le_refl _), .inl ⟨by rw [HW]; rfl, rfl⟩⟩
   | [_, _], hl, HW =>
    have hz : s.size < 3 := by rw [hl.size]; first | done | simp
    go_wp2_with (refine store28 rfl _ _ rfl _ _ rfl rfl (by rfl) (by rfl) 28 _ hg0 (by rfl) ?_)
    all_goals exact bodyPost_ret (v := .tuple #[vAgg 0 false 0 0 0 ⟨#[]⟩ 0 0 0 0 0 0 0 0, .bool false]) (results_28 Tryz.results29 _ _ _ _ _ _ rfl (row28_set _ _ _ _ hg0) rfl) rfl ⟨below_setRow hB0 (Nat.le_refl _), .inl ⟨by rw [HW]; rfl, rfl⟩⟩
   | c0 :: c1 :: c2 :: r2, hl, HW =>
    have hz : 3 ≤ s.size := by rw [hl.size]; simp
    obtain ⟨p0, p1, e0, e1⟩ := hl.cons2
    have hr2 := (StrIs.drop hl 2)
    by_cases k0 : c0 = 48
    ·subst k0
     by_cases k1 : c1 = 98
     ·subst k1
      have hlen : (c2 :: r2).length ≤ maxLen := by simp at hll ⊢; omega
      go_wp2_with fail
      refine (ylSign_any _ _ _ hr2 (hr2.le hlen)).mono ?_
      rintro e w' ⟨⟨n2, rfl⟩, r', hr', rfl⟩
      simp only [List.drop_succ_cons, List.drop_zero] at hr'
      go_wp2_with fail
      refine (ylAmount_any r' _ 2 _ hr' (hr'.le (Nat.le_trans (sgn_len _) hlen)) (by omega) (by omega)).mono ?_
      rintro e w' ⟨rfl, ⟨ha2, m2, rfl⟩ | ⟨m2, ha2, hm2, hm3, rfl⟩⟩
      ·go_wp2_with (refine store28 rfl _ _ rfl _ _ rfl rfl (by rfl) (by rfl) 28 _ (hg_drewN hg0) (by rfl) ?_)
       exact bodyPost_ret (v := .tuple #[vAgg 0 false 0 0 0 ⟨#[]⟩ 0 0 0 0 0 0 0 0, .bool false]) (results_28 Tryz.results29 _ _ _ _ _ _ rfl (row28_set _ _ _ _ (hg_drewN hg0)) rfl) rfl ⟨below_setRow (below_drewN hB0 n2) (Nat.le_refl _), .inl ⟨by rw [HW]; simp [whole2, ha2], rfl⟩⟩
      ·by_cases hs2 : (sgn (c2 :: r2)).2.2 = true
       ·have hs3 := Lib.hid hs2
        go_wp2_with fail
        refine (ylSigned_any _ _ _ _ hm2 hm3).mono ?_
        rintro e w3 ⟨hb3, ⟨hv3, rfl⟩ | ⟨i, hv3, rfl⟩ | ⟨i, hv3, rfl⟩⟩
        all_goals
         unfold vAgg
         have hg3 := hg_below hb3 (by simp; omega) (hg_drewN hg0)
         have HB3 := (below_drewN hB0 n2).trans (hb3.mono (B' := w.heap.size) (by simp; omega))
         clear hb3
         go_wp2_with (refine store28 rfl _ _ rfl _ _ rfl rfl (by rfl) (by rfl) 28 _ hg3 (by rfl) ?_)
        ·exact bodyPost_ret (v := .tuple #[vAgg 0 false 0 0 0 ⟨#[]⟩ 0 0 0 0 0 0 0 0, .bool false]) (results_28 Tryz.results29 _ _ _ _ _ _ rfl (row28_set _ _ _ _ hg3) rfl) rfl ⟨below_setRow HB3 (Nat.le_refl _), .inl ⟨by rw [HW]; simp [whole2, ha2, hs3.out, hv3], rfl⟩⟩
        ·exact bodyPost_ret (v := .tuple #[vAgg 2 false i 0 0 ⟨#[]⟩ 0 0 0 0 0 0 0 0, .bool true]) (results_28 Tryz.results29 _ _ _ _ _ _ rfl (row28_set _ _ _ _ hg3) rfl) rfl ⟨below_setRow HB3 (Nat.le_refl _), .inr (.inl ⟨i, by rw [HW]; simp [whole2, ha2, hs3.out, hv3], rfl⟩)⟩
        ·exact bodyPost_ret (v := .tuple #[vAgg 3 false 0 i 0 ⟨#[]⟩ 0 0 0 0 0 0 0 0, .bool true]) (results_28 Tryz.results29 _ _ _ _ _ _ rfl (row28_set _ _ _ _ hg3) rfl) rfl ⟨below_setRow HB3 (Nat.le_refl _), .inr (.inr ⟨i, by rw [HW]; simp [whole2, ha2, hs3.out, hv3], rfl⟩)⟩
       ·have hs3 : (sgn (c2 :: r2)).2.2 = false := by simpa using hs2
        have hs4 := Lib.hid hs3
        go_wp2_with (refine store28 rfl _ _ rfl _ _ rfl rfl (by rfl) (by rfl) 28 _ (hg_drewN hg0) (by rfl) ?_)
        exact bodyPost_ret (v := .tuple #[vAgg 0 false 0 0 0 ⟨#[]⟩ 0 0 0 0 0 0 0 0, .bool false]) (results_28 Tryz.results29 _ _ _ _ _ _ rfl (row28_set _ _ _ _ (hg_drewN hg0)) rfl) rfl ⟨below_setRow (below_drewN hB0 n2) (Nat.le_refl _), .inl ⟨by rw [HW]; simp [whole2, hs4.out], rfl⟩⟩
     ·by_cases k2 : c1 = 111
      ·subst k2
       have hlen : (c2 :: r2).length ≤ maxLen := by simp at hll ⊢; omega
       go_wp2_with fail
       refine (ylSign_any _ _ _ hr2 (hr2.le hlen)).mono ?_
       rintro e w' ⟨⟨n2, rfl⟩, r', hr', rfl⟩
       simp only [List.drop_succ_cons, List.drop_zero] at hr'
       go_wp2_with fail
       refine (ylAmount_any r' _ 8 _ hr' (hr'.le (Nat.le_trans (sgn_len _) hlen)) (by omega) (by omega)).mono ?_
       rintro e w' ⟨rfl, ⟨ha2, m2, rfl⟩ | ⟨m2, ha2, hm2, hm3, rfl⟩⟩
       ·go_wp2_with (refine store28 rfl _ _ rfl _ _ rfl rfl (by rfl) (by rfl) 28 _ (hg_drewN hg0) (by rfl) ?_)
        exact bodyPost_ret (v := .tuple #[vAgg 0 false 0 0 0 ⟨#[]⟩ 0 0 0 0 0 0 0 0, .bool false]) (results_28 Tryz.results29 _ _ _ _ _ _ rfl (row28_set _ _ _ _ (hg_drewN hg0)) rfl) rfl ⟨below_setRow (below_drewN hB0 n2) (Nat.le_refl _), .inl ⟨by rw [HW]; simp [whole2, ha2], rfl⟩⟩
       ·by_cases hs2 : (sgn (c2 :: r2)).2.2 = true
        ·have hs3 := Lib.hid hs2
         go_wp2_with fail
         refine (ylSigned_any _ _ _ _ hm2 hm3).mono ?_
         rintro e w3 ⟨hb3, ⟨hv3, rfl⟩ | ⟨i, hv3, rfl⟩ | ⟨i, hv3, rfl⟩⟩
         all_goals
          unfold vAgg
          have hg3 := hg_below hb3 (by simp; omega) (hg_drewN hg0)
          have HB3 := (below_drewN hB0 n2).trans (hb3.mono (B' := w.heap.size) (by simp; omega))
          clear hb3
          go_wp2_with (refine store28 rfl _ _ rfl _ _ rfl rfl (by rfl) (by rfl) 28 _ hg3 (by rfl) ?_)
         ·exact bodyPost_ret (v := .tuple #[vAgg 0 false 0 0 0 ⟨#[]⟩ 0 0 0 0 0 0 0 0, .bool false]) (results_28 Tryz.results29 _ _ _ _ _ _ rfl (row28_set _ _ _ _ hg3) rfl) rfl ⟨below_setRow HB3 (Nat.le_refl _), .inl ⟨by rw [HW]; simp [whole2, ha2, hs3.out, hv3], rfl⟩⟩
         ·exact bodyPost_ret (v := .tuple #[vAgg 2 false i 0 0 ⟨#[]⟩ 0 0 0 0 0 0 0 0, .bool true]) (results_28 Tryz.results29 _ _ _ _ _ _ rfl (row28_set _ _ _ _ hg3) rfl) rfl ⟨below_setRow HB3 (Nat.le_refl _), .inr (.inl ⟨i, by rw [HW]; simp [whole2, ha2, hs3.out, hv3], rfl⟩)⟩
         ·exact bodyPost_ret (v := .tuple #[vAgg 3 false 0 i 0 ⟨#[]⟩ 0 0 0 0 0 0 0 0, .bool true]) (results_28 Tryz.results29 _ _ _ _ _ _ rfl (row28_set _ _ _ _ hg3) rfl) rfl ⟨below_setRow HB3 (Nat.le_refl _), .inr (.inr ⟨i, by rw [HW]; simp [whole2, ha2, hs3.out, hv3], rfl⟩)⟩
        ·have hs3 : (sgn (c2 :: r2)).2.2 = false := by simpa using hs2
         have hs4 := Lib.hid hs3
         go_wp2_with (refine store28 rfl _ _ rfl _ _ rfl rfl (by rfl) (by rfl) 28 _ (hg_drewN hg0) (by rfl) ?_)
         exact bodyPost_ret (v := .tuple #[vAgg 0 false 0 0 0 ⟨#[]⟩ 0 0 0 0 0 0 0 0, .bool false]) (results_28 Tryz.results29 _ _ _ _ _ _ rfl (row28_set _ _ _ _ (hg_drewN hg0)) rfl) rfl ⟨below_setRow (below_drewN hB0 n2) (Nat.le_refl _), .inl ⟨by rw [HW]; simp [whole2, hs4.out], rfl⟩⟩
      ·have f1 : ((c1.toNat : Int) != 98) = true := by rw [show ((c1.toNat : Int) != 98) = !decide (c1 = 98) from byte_neq c1 98]; simp [k1]
       have f2 : ((c1.toNat : Int) != 111) = true := by rw [show ((c1.toNat : Int) != 111) = !decide (c1 = 111) from byte_neq c1 111]; simp [k2]
       go_wp2_with (refine store28 rfl _ _ rfl _ _ rfl rfl (by rfl) (by rfl) 28 _ hg0 (by rfl) ?_)
       exact bodyPost_ret (v := .tuple #[vAgg 0 false 0 0 0 ⟨#[]⟩ 0 0 0 0 0 0 0 0, .bool false]) (results_28 Tryz.results29 _ _ _ _ _ _ rfl (row28_set _ _ _ _ hg0) rfl) rfl ⟨below_setRow hB0 (Nat.le_refl _), .inl ⟨by rw [HW]; simp [whole2, k1, k2], rfl⟩⟩
    ·have f1 : ((c0.toNat : Int) != 48) = true := by rw [show ((c0.toNat : Int) != 48) = !decide (c0 = 48) from byte_neq c0 48]; simp [k0]
     go_wp2_with (refine store28 rfl _ _ rfl _ _ rfl rfl (by rfl) (by rfl) 28 _ hg0 (by rfl) ?_)
     exact bodyPost_ret (v := .tuple #[vAgg 0 false 0 0 0 ⟨#[]⟩ 0 0 0 0 0 0 0 0, .bool false]) (results_28 Tryz.results29 _ _ _ _ _ _ rfl (row28_set _ _ _ _ hg0) rfl) rfl ⟨below_setRow hB0 (Nat.le_refl _), .inl ⟨by rw [HW]; simp [whole2, k0], rfl⟩⟩
 ·go_upto_region 8 with fail
  have HW := whole_second (l := l) (by rw [ha]; rfl)
  match l, hl, HW with
  | [], hl, HW =>
   have hz : s.size < 3 := by rw [hl.size]; first | done | simp
   go_wp2_with (refine store28 rfl _ _ rfl _ _ rfl rfl (by rfl) (by rfl) 28 _ hg0 (by rfl) ?_)
   all_goals exact bodyPost_ret (v := .tuple #[vAgg 0 false 0 0 0 ⟨#[]⟩ 0 0 0 0 0 0 0 0, .bool false]) (results_28 Tryz.results29 _ _ _ _ _ _ rfl (row28_set _ _ _ _ hg0) rfl) rfl ⟨below_setRow hB0 (Nat.le_refl _), .inl ⟨by rw [HW]; rfl, rfl⟩⟩
  | [_], hl, HW =>
   have hz : s.size < 3 := by rw [hl.size]; first | done | simp
   go_wp2_with (refine store28 rfl _ _ rfl _ _ rfl rfl (by rfl) (by rfl) 28 _ hg0 (by rfl) ?_)
   all_goals exact bodyPost_ret (v := .tuple #[vAgg 0 false 0 0 0 ⟨#[]⟩ 0 0 0 0 0 0 0 0, .bool false]) (results_28 Tryz.results29 _ _ _ _ _ _ rfl (row28_set _ _ _ _ hg0) rfl) rfl ⟨below_setRow hB0 (Nat.le_refl _), .inl ⟨by rw [HW]; rfl, rfl⟩⟩
  | [_, _], hl, HW =>
   have hz : s.size < 3 := by rw [hl.size]; first | done | simp
   go_wp2_with (refine store28 rfl _ _ rfl _ _ rfl rfl (by rfl) (by rfl) 28 _ hg0 (by rfl) ?_)
   all_goals exact bodyPost_ret (v := .tuple #[vAgg 0 false 0 0 0 ⟨#[]⟩ 0 0 0 0 0 0 0 0, .bool false]) (results_28 Tryz.results29 _ _ _ _ _ _ rfl (row28_set _ _ _ _ hg0) rfl) rfl ⟨below_setRow hB0 (Nat.le_refl _), .inl ⟨by rw [HW]; rfl, rfl⟩⟩
  | c0 :: c1 :: c2 :: r2, hl, HW =>
   have hz : 3 ≤ s.size := by rw [hl.size]; simp
   obtain ⟨p0, p1, e0, e1⟩ := hl.cons2
   have hr2 := (StrIs.drop hl 2)
   by_cases k0 : c0 = 48
   ·subst k0
    by_cases k1 : c1 = 98
    ·subst k1
     have hlen : (c2 :: r2).length ≤ maxLen := by simp at hll ⊢; omega
     go_wp2_with fail
     refine (ylSign_any _ _ _ hr2 (hr2.le hlen)).mono ?_
     rintro e w' ⟨⟨n2, rfl⟩, r', hr', rfl⟩
     simp only [List.drop_succ_cons, List.drop_zero] at hr'
     go_wp2_with fail
     refine (ylAmount_any r' _ 2 _ hr' (hr'.le (Nat.le_trans (sgn_len _) hlen)) (by omega) (by omega)).mono ?_
     rintro e w' ⟨rfl, ⟨ha2, m2, rfl⟩ | ⟨m2, ha2, hm2, hm3, rfl⟩⟩
     ·go_wp2_with (refine store28 rfl _ _ rfl _ _ rfl rfl (by rfl) (by rfl) 28 _ (hg_drewN hg0) (by rfl) ?_)
      exact bodyPost_ret (v := .tuple #[vAgg 0 false 0 0 0 ⟨#[]⟩ 0 0 0 0 0 0 0 0, .bool false]) (results_28 Tryz.results29 _ _ _ _ _ _ rfl (row28_set _ _ _ _ (hg_drewN hg0)) rfl) rfl ⟨below_setRow (below_drewN hB0 n2) (Nat.le_refl _), .inl ⟨by rw [HW]; simp [whole2, ha2], rfl⟩⟩
     ·by_cases hs2 : (sgn (c2 :: r2)).2.2 = true
      ·have hs3 := Lib.hid hs2
       go_wp2_with fail
       refine (ylSigned_any _ _ _ _ hm2 hm3).mono ?_
       rintro e w3 ⟨hb3, ⟨hv3, rfl⟩ | ⟨i, hv3, rfl⟩ | ⟨i, hv3, rfl⟩⟩
       all_goals
        unfold vAgg
        have hg3 := hg_below hb3 (by simp; omega) (hg_drewN hg0)
        have HB3 := (below_drewN hB0 n2).trans (hb3.mono (B' := w.heap.size) (by simp; omega))
        clear hb3
        go_wp2_with (refine store28 rfl _ _ rfl _ _ rfl rfl (by rfl) (by rfl) 28 _ hg3 (by rfl) ?_)
       ·exact bodyPost_ret (v := .tuple #[vAgg 0 false 0 0 0 ⟨#[]⟩ 0 0 0 0 0 0 0 0, .bool false]) (results_28 Tryz.results29 _ _ _ _ _ _ rfl (row28_set _ _ _ _ hg3) rfl) rfl ⟨below_setRow HB3 (Nat.le_refl _), .inl ⟨by rw [HW]; simp [whole2, ha2, hs3.out, hv3], rfl⟩⟩
       ·exact bodyPost_ret (v := .tuple #[vAgg 2 false i 0 0 ⟨#[]⟩ 0 0 0 0 0 0 0 0, .bool true]) (results_28 Tryz.results29 _ _ _ _ _ _ rfl (row28_set _ _ _ _ hg3) rfl) rfl ⟨below_setRow HB3 (Nat.le_refl _), .inr (.inl ⟨i, by rw [HW]; simp [whole2, ha2, hs3.out, hv3], rfl⟩)⟩
       ·exact bodyPost_ret (v := .tuple #[vAgg 3 false 0 i 0 ⟨#[]⟩ 0 0 0 0 0 0 0 0, .bool true]) (results_28 Tryz.results29 _ _ _ _ _ _ rfl (row28_set _ _ _ _ hg3) rfl) rfl ⟨below_setRow HB3 (Nat.le_refl _), .inr (.inr ⟨i, by rw [HW]; simp [whole2, ha2, hs3.out, hv3], rfl⟩)⟩
      ·have hs3 : (sgn (c2 :: r2)).2.2 = false := by simpa using hs2
       have hs4 := Lib.hid hs3
       go_wp2_with (refine store28 rfl _ _ rfl _ _ rfl rfl (by rfl) (by rfl) 28 _ (hg_drewN hg0) (by rfl) ?_)
       exact bodyPost_ret (v := .tuple #[vAgg 0 false 0 0 0 ⟨#[]⟩ 0 0 0 0 0 0 0 0, .bool false]) (results_28 Tryz.results29 _ _ _ _ _ _ rfl (row28_set _ _ _ _ (hg_drewN hg0)) rfl) rfl ⟨below_setRow (below_drewN hB0 n2) (Nat.le_refl _), .inl ⟨by rw [HW]; simp [whole2, hs4.out], rfl⟩⟩
    ·by_cases k2 : c1 = 111
     ·subst k2
      have hlen : (c2 :: r2).length ≤ maxLen := by simp at hll ⊢; omega
      go_wp2_with fail
      refine (ylSign_any _ _ _ hr2 (hr2.le hlen)).mono ?_
      rintro e w' ⟨⟨n2, rfl⟩, r', hr', rfl⟩
      simp only [List.drop_succ_cons, List.drop_zero] at hr'
      go_wp2_with fail
      refine (ylAmount_any r' _ 8 _ hr' (hr'.le (Nat.le_trans (sgn_len _) hlen)) (by omega) (by omega)).mono ?_
      rintro e w' ⟨rfl, ⟨ha2, m2, rfl⟩ | ⟨m2, ha2, hm2, hm3, rfl⟩⟩
      ·go_wp2_with (refine store28 rfl _ _ rfl _ _ rfl rfl (by rfl) (by rfl) 28 _ (hg_drewN hg0) (by rfl) ?_)
       exact bodyPost_ret (v := .tuple #[vAgg 0 false 0 0 0 ⟨#[]⟩ 0 0 0 0 0 0 0 0, .bool false]) (results_28 Tryz.results29 _ _ _ _ _ _ rfl (row28_set _ _ _ _ (hg_drewN hg0)) rfl) rfl ⟨below_setRow (below_drewN hB0 n2) (Nat.le_refl _), .inl ⟨by rw [HW]; simp [whole2, ha2], rfl⟩⟩
      ·by_cases hs2 : (sgn (c2 :: r2)).2.2 = true
       ·have hs3 := Lib.hid hs2
        go_wp2_with fail
        refine (ylSigned_any _ _ _ _ hm2 hm3).mono ?_
        rintro e w3 ⟨hb3, ⟨hv3, rfl⟩ | ⟨i, hv3, rfl⟩ | ⟨i, hv3, rfl⟩⟩
        all_goals
         unfold vAgg
         have hg3 := hg_below hb3 (by simp; omega) (hg_drewN hg0)
         have HB3 := (below_drewN hB0 n2).trans (hb3.mono (B' := w.heap.size) (by simp; omega))
         clear hb3
         go_wp2_with (refine store28 rfl _ _ rfl _ _ rfl rfl (by rfl) (by rfl) 28 _ hg3 (by rfl) ?_)
        ·exact bodyPost_ret (v := .tuple #[vAgg 0 false 0 0 0 ⟨#[]⟩ 0 0 0 0 0 0 0 0, .bool false]) (results_28 Tryz.results29 _ _ _ _ _ _ rfl (row28_set _ _ _ _ hg3) rfl) rfl ⟨below_setRow HB3 (Nat.le_refl _), .inl ⟨by rw [HW]; simp [whole2, ha2, hs3.out, hv3], rfl⟩⟩
        ·exact bodyPost_ret (v := .tuple #[vAgg 2 false i 0 0 ⟨#[]⟩ 0 0 0 0 0 0 0 0, .bool true]) (results_28 Tryz.results29 _ _ _ _ _ _ rfl (row28_set _ _ _ _ hg3) rfl) rfl ⟨below_setRow HB3 (Nat.le_refl _), .inr (.inl ⟨i, by rw [HW]; simp [whole2, ha2, hs3.out, hv3], rfl⟩)⟩
        ·exact bodyPost_ret (v := .tuple #[vAgg 3 false 0 i 0 ⟨#[]⟩ 0 0 0 0 0 0 0 0, .bool true]) (results_28 Tryz.results29 _ _ _ _ _ _ rfl (row28_set _ _ _ _ hg3) rfl) rfl ⟨below_setRow HB3 (Nat.le_refl _), .inr (.inr ⟨i, by rw [HW]; simp [whole2, ha2, hs3.out, hv3], rfl⟩)⟩
       ·have hs3 : (sgn (c2 :: r2)).2.2 = false := by simpa using hs2
        have hs4 := Lib.hid hs3
        go_wp2_with (refine store28 rfl _ _ rfl _ _ rfl rfl (by rfl) (by rfl) 28 _ (hg_drewN hg0) (by rfl) ?_)
        exact bodyPost_ret (v := .tuple #[vAgg 0 false 0 0 0 ⟨#[]⟩ 0 0 0 0 0 0 0 0, .bool false]) (results_28 Tryz.results29 _ _ _ _ _ _ rfl (row28_set _ _ _ _ (hg_drewN hg0)) rfl) rfl ⟨below_setRow (below_drewN hB0 n2) (Nat.le_refl _), .inl ⟨by rw [HW]; simp [whole2, hs4.out], rfl⟩⟩
     ·have f1 : ((c1.toNat : Int) != 98) = true := by rw [show ((c1.toNat : Int) != 98) = !decide (c1 = 98) from byte_neq c1 98]; simp [k1]
      have f2 : ((c1.toNat : Int) != 111) = true := by rw [show ((c1.toNat : Int) != 111) = !decide (c1 = 111) from byte_neq c1 111]; simp [k2]
      go_wp2_with (refine store28 rfl _ _ rfl _ _ rfl rfl (by rfl) (by rfl) 28 _ hg0 (by rfl) ?_)
      exact bodyPost_ret (v := .tuple #[vAgg 0 false 0 0 0 ⟨#[]⟩ 0 0 0 0 0 0 0 0, .bool false]) (results_28 Tryz.results29 _ _ _ _ _ _ rfl (row28_set _ _ _ _ hg0) rfl) rfl ⟨below_setRow hB0 (Nat.le_refl _), .inl ⟨by rw [HW]; simp [whole2, k1, k2], rfl⟩⟩
   ·have f1 : ((c0.toNat : Int) != 48) = true := by rw [show ((c0.toNat : Int) != 48) = !decide (c0 = 48) from byte_neq c0 48]; simp [k0]
    go_wp2_with (refine store28 rfl _ _ rfl _ _ rfl rfl (by rfl) (by rfl) 28 _ hg0 (by rfl) ?_)
    exact bodyPost_ret (v := .tuple #[vAgg 0 false 0 0 0 ⟨#[]⟩ 0 0 0 0 0 0 0 0, .bool false]) (results_28 Tryz.results29 _ _ _ _ _ _ rfl (row28_set _ _ _ _ hg0) rfl) rfl ⟨below_setRow hB0 (Nat.le_refl _), .inl ⟨by rw [HW]; simp [whole2, k0], rfl⟩⟩
end Go.Proofs.YtillamhoakohdaaGreatDoor
