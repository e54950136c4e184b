/-
  Walks: the library's ParseFloat is right where a text is read as a decimal alone, and comes back everywhere.
-/
import Derived.Test.YtillamhoakohdaaGreatDoorM11
import Derived.Test.YtillamhoakohdaaGreatDoorM47
import Derived.Test.YtillamhoakohdaaGreatDoorM48
set_option linter.unusedVariables false
set_option linter.unusedSimpArgs false
namespace Go.Proofs.YtillamhoakohdaaGreatDoor
open Go.RowKit
attribute [local go_sem] setCell_drewN

theorem hex_noPre {t : Bs} (h : HexP t) : ¬ NoPre t := by
 obtain ⟨c, r, h1, _, h2⟩ := h
 intro hp
 have := hp c r h1
 rcases h2 with h2 | h2
 ·exact this.2.2.2.2.1 h2
 ·exact this.2.2.2.2.2 h2
theorem at_hex {l : Bs} (h : HexP (sgn l).1) (n : Nat) (i : Int) (err : Value) : AtLead l n i err := fun hl => absurd (lead_first hl).2.2 (hex_noPre h)
set_option maxRecDepth 100000 in
set_option maxHeartbeats 8000000 in
theorem atof_hex (s : ByteArray) (l : Bs) (w : World) (HG : Glob w) (hl : StrIs s l) (hs : s.size ≤ 200) (hx : HexP (sgn l).1) :
  Calls Tryz.prog 130 #[.string s] w (AtPost l w) := by
 have HGG := Lib.hid HG
 have HL := Lib.hid hl
 have HX := Lib.hid hx
 clear HG hl hx
 go_enter Tryz.func130, Tryz.ntmps130
 go_wp2_with fail
 refine (special_any s l _ HL.out hs).mono ?_
 rintro e w' ⟨b, n0, ok, rfl, rfl, _⟩
 rcases Bool.eq_false_or_eq_true ok with rfl | rfl
 ·go_wp2
  go_ret3
  exact at_mk (below_same _) (Or.inl rfl) (at_hex HX.out _ _ _)
 go_wp2_with fail
 refine (readFloat_hex s l _ HL.out hs HX.out).mono ?_
 rintro e w' ⟨m, p, neg, tr, i, ok, rfl, rfl, hi, hm, hp1, hp2⟩
 cases ok
 ·go_wp2
  go_ret3
  exact at_mk (below_same _) (Or.inr (Or.inr rfl)) (at_hex HX.out _ _ _)
 have his : i ≤ s.size := by rw [HL.out.size]; exact hi
 have HM := Lib.hid hm
 clear hm
 go_wp2_with fail
 refine (hex_any _ m p neg tr _ HGG.out HM.out hp1 hp2).mono ?_
 rintro e w' ⟨hb, n, err, rfl, he⟩
 have HB := Lib.hid hb
 have HE := Lib.hid he
 clear hb he
 go_wp2
 go_ret3
 exact at_mk HB.out HE.out (at_hex HX.out _ _ _)
theorem atof_any (s : ByteArray) (l : Bs) (w : World) (HG : Glob w) (hl : StrIs s l) (hs : s.size ≤ 200) : Calls Tryz.prog 130 #[.string s] w (AtPost l w) := by
 by_cases h : HexP (sgn l).1
 ·exact atof_hex s l w HG hl hs h
 ·exact atof_dec s l w HG hl hs h
theorem prefix_any (s : ByteArray) (l : Bs) (w : World) (HG : Glob w) (hl : StrIs s l) (hs : s.size ≤ 200) : Calls Tryz.prog 115 #[.string s, .int .i64 64] w (AtPost l w) := by
 go_enter Tryz.func115, Tryz.ntmps115
 go_wp2_with fail
 refine (atof_any s l _ HG hl hs).mono ?_
 rintro e w' ⟨hb, n, i, err, rfl, he, ha⟩
 have HB := Lib.hid hb
 have HE := Lib.hid he
 have HA := Lib.hid ha
 clear hb he ha
 go_wp2
 go_ret3
 exact at_mk HB.out HE.out HA.out
def PfIn (l : Bs) (w : World) (e : Ending) (w' : World) : Prop := Below w.heap.size w w' ∧ ∃ (n : Nat) (err : Value), e = .returned (.tuple #[.float .f64 n, err]) ∧
 ((err = .nilIface ∧ (lead l → pf l = some n)) ∨ ((err = .iface 175 (.int .i64 1) ∨ err = .iface 175 (.int .i64 2)) ∧ (lead l → pf l = none)))
theorem inner_any (s : ByteArray) (l : Bs) (w : World) (HG : Glob w) (hl : StrIs s l) (hs : s.size ≤ 200) : Calls Tryz.prog 95 #[.string s, .int .i64 64] w (PfIn l w) := by
 have hsz := hl.size
 have HSZ := Lib.hid hsz
 clear hsz
 go_enter Tryz.func95, Tryz.ntmps95
 go_wp2_with fail
 refine (prefix_any s l _ HG hl hs).mono ?_
 rintro e w' ⟨hb, n, i, err, rfl, he, ha⟩
 have HB := Lib.hid hb
 have HE := Lib.hid he
 have HA := Lib.hid ha
 clear hb he ha hl
 by_cases hi : i = (s.size : Int)
 ·have k1 : (i != (s.size : Int)) = false := by rw [bne_eq_false_iff_eq]; exact hi
  have HI : Hid (i = l.length) := Lib.hid (by rw [hi, HSZ.out])
  clear hi
  go_wp2
  go_ret2
  refine ⟨HB.out, n, err, rfl, ?_⟩
  rcases HE.out with h | h
  ·exact Or.inl ⟨h, fun hl => (HA.out hl).1 ⟨HI.out, h⟩⟩
  ·refine Or.inr ⟨h, fun hl => (HA.out hl).2 (Or.inr ?_)⟩
   rcases h with h | h <;> rw [h] <;> exact iface_ne
 ·have k1 : (i != (s.size : Int)) = true := by rw [bne_iff_ne]; exact hi
  have HI : Hid (i ≠ l.length) := Lib.hid (by rw [← HSZ.out]; exact hi)
  clear hi
  go_wp2
  go_ret2
  exact ⟨HB.out, 0, _, rfl, Or.inr ⟨Or.inr rfl, fun hl => (HA.out hl).2 (Or.inl HI.out)⟩⟩
theorem realPF : PFContract 50 := by
 intro s l w HG hl hs
 have HGG := Lib.hid HG
 clear HG
 go_enter Tryz.func50, Tryz.ntmps50
 go_wp2_with fail
 refine (inner_any s l _ HGG.out hl hs).mono ?_
 rintro e w' ⟨hb, n, err, rfl, h⟩
 have HB := Lib.hid hb
 have HG2 := Lib.hid (HGG.out.below hb)
 clear hb
 rcases h with ⟨rfl, h⟩ | ⟨he, h⟩
 ·have HH := Lib.hid h
  clear h
  go_wp2
  go_ret2
  exact ⟨HB.out, n, _, rfl, Or.inl ⟨rfl, HH.out⟩⟩
 ·have HH := Lib.hid h
  clear h
  rcases he with rfl | rfl
  ·go_wp2_with fail
   refine (toError_any _ s 0 64 1 _ HG2.out (by omega) (Or.inl rfl)).mono ?_
   rintro e w2 ⟨⟨t, v, rfl⟩, hb2⟩
   have HB2 := Lib.hid (HB.out.trans (hb2.mono HB.out.size))
   clear hb2
   go_wp2
   go_ret2
   exact ⟨HB2.out, n, _, rfl, Or.inr ⟨⟨t, v, rfl⟩, HH.out⟩⟩
  ·go_wp2_with fail
   refine (toError_any _ s 0 64 2 _ HG2.out (by omega) (Or.inr rfl)).mono ?_
   rintro e w2 ⟨⟨t, v, rfl⟩, hb2⟩
   have HB2 := Lib.hid (HB.out.trans (hb2.mono HB.out.size))
   clear hb2
   go_wp2
   go_ret2
   exact ⟨HB2.out, n, _, rfl, Or.inr ⟨⟨t, v, rfl⟩, HH.out⟩⟩
end Go.Proofs.YtillamhoakohdaaGreatDoor
