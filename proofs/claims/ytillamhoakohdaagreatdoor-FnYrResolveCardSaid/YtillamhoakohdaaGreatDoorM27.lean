/-
  Walks: the program's times, one form, behind a year.
-/
import Derived.Deep.CutBlock
import Derived.Deep.CutRange
import Derived.Test.YtillamhoakohdaaGreatDoorM26
set_option linter.unusedVariables false
set_option linter.unusedSimpArgs false
namespace Go.Proofs.YtillamhoakohdaaGreatDoor
open Go.RowKit
attribute [local go_sem] setCell_drewN

set_option maxRecDepth 100000 in
set_option maxHeartbeats 40000000 in
theorem parse_yes (s : ByteArray) (l : Bs) (form : UInt8) (w : World) (hl : StrIs s l) (hs : s.size ≤ 1000) (y : Int) (r4 : Bs) (hy : yr l = some (y, r4)) :
    Calls Tryz.prog 106 #[.string s, .int .u8 form.toNat, .bool false] w (ParsePost (parseP form l) w) := by
  have PP : Hid (parseP form l = ((markNum 45 r4).bind fun b => (markNum 45 b.2).bind fun c => if b.1 < 1 ∨ 12 < b.1 ∨ c.1 < 1 ∨ daysOf y b.1 < c.1 then none else some (y, b.1, c.1, c.2)).bind fun a => if form = 0 then (if a.2.2.2 = [] then some [a.1, a.2.1, a.2.2.1, 0, 0, 0, 0, 0] else none) else restP form a.1 a.2.1 a.2.2.1 a.2.2.2) := Lib.hid (by unfold parseP dateP; rw [hy]; rfl)
  obtain ⟨hd, hr4, hyk, h4l⟩ := yr_yes hy
  have D0 := dig_at hl hs (hd 0 (by omega)) 0 (by omega)
  have D1 := dig_at hl hs (hd 1 (by omega)) 1 (by omega)
  have D2 := dig_at hl hs (hd 2 (by omega)) 2 (by omega)
  have D3 := dig_at hl hs (hd 3 (by omega)) 3 (by omega)
  have h4s : 4 ≤ s.size := by rw [hl.size]; exact h4l
  have HL := Lib.hid hl
  have HD := Lib.hid hd
  have HYK : Hid (y = yk l 4) := Lib.hid hyk
  have HR4 := Lib.hid hr4
  have hyb := yk_bd l 4 hd
  rw [← hyk] at hyb
  have hyb1 : y ≤ 9999 := by have := hyb.2; omega
  have hyb0 := hyb.1
  clear hy hyb hyk hr4 hd hl h4l
  go_enter Tryz.func106, Tryz.ntmps106
  go_wp2_with fail
  refine (D0.out _).mono ?_
  rintro e w' ⟨rfl, rfl⟩
  go_wp2_with fail
  refine (D1.out _).mono ?_
  rintro e w' ⟨rfl, rfl⟩
  go_wp2_with fail
  refine (D2.out _).mono ?_
  rintro e w' ⟨rfl, rfl⟩
  go_wp2_with fail
  refine (D3.out _).mono ?_
  rintro e w' ⟨rfl, rfl⟩
  clear D0 D1 D2 D3
  go_upto_region 7 with fail
  have S0 : TS w _ 0 0 0 0 0 0 0 0 := ⟨heap_alloc_new _ _, (Below.refl _ _).alloc (Nat.le_refl _) _⟩
  generalize hW : World.alloc w (.cells (tCells 0 0 0 0 0 0 0 0) 61) = W0 at *
  change World.alloc w (.cells #[.int .i64 0, .int .i64 0, .int .i64 0, .int .i64 0, .int .i64 0, .int .i64 0, .int .i64 0, .int .i64 0] 61) = W0 at hW
  rw [hW]
  clear hW
  go_loopw [9] (fun iv W => ∃ k : Nat, k ≤ 4 ∧ iv = .int .i64 k ∧ TS w W (yk l k) 0 0 0 0 0 0 0) (fun iv _ => 4 - (intOf iv).toNat)
  case atStart => exact ⟨0, by omega, rfl, S0⟩
  case round =>
    obtain ⟨k, hk, rfl, S⟩ := hrel
    by_cases hlt : k < 4
    · have hki : (k : Int) < 4 := by omega
      have hk0 : (0 : Int) ≤ (k : Int) := by omega
      have hks : (k : Int) < (s.size : Int) := by omega
      have hks2 : k < s.size := by omega
      have hb := yk_bd l k (fun i hi => HD.out i (by omega))
      have hb2 : yk l k < 10000 := by
        have h1 := hb.2
        rcases (show k = 0 ∨ k = 1 ∨ k = 2 ∨ k = 3 by omega) with rfl | rfl | rfl | rfl <;> omega
      have hb0 := hb.1
      have HB0 : Hid (s[k] = l.getD k 0) := Lib.hid (by have := HL.out.get k hks2; rw [List.getD_eq_getElem?_getD, this]; rfl)
      have hdg : isDig s[k] = true := by have := HD.out k hlt; unfold digAt at this; rw [HL.out.get k hks2] at this; exact this
      have g1 : (48 : Int) ≤ (s[k].toNat : Int) := by have : 48 ≤ s[k].toNat ∧ s[k].toNat ≤ 57 := by simpa [isDig] using hdg
                                                      omega
      have g2 : (s[k].toNat : Int) ≤ 57 := by have : 48 ≤ s[k].toNat ∧ s[k].toNat ≤ 57 := by simpa [isDig] using hdg
                                              omega
      have hyk1 : Hid (yk l (k + 1) = yk l k * 10 + ((s[k].toNat : Int) - 48)) := Lib.hid (by rw [HB0.out]; rfl)
      obtain ⟨c0, f0⟩ := S.cell 0 (.int .i64 (yk l k)) rfl
      clear hb hdg hlt
      go_wp2
      go_region
      go_wp2
      go_round
      case rel => exact ⟨k + 1, by omega, by simp, (S.set 0 _ (by rw [hyk1.out]; rfl)).drew⟩
      case measure => simp only [intOf]; omega
    · have hki : decide ((k : Int) < 4) = false := by simp; omega
      have hki2 : (4 : Int) ≤ (k : Int) := by omega
      have hk4 : k = 4 := by omega
      have S1 : Hid (TS w wr y 0 0 0 0 0 0 0) := Lib.hid (by rw [HYK.out, ← hk4]; exact S)
      clear S hk hlt hk4
      have g4 : (4 : Int) ≤ (s.size : Int) := by omega
      have hdr4 := Lib.hid (HL.out.drop 4)
      rw [← HR4.out] at hdr4
      have hz4 : (s.extract 4 s.size).size ≤ 1000 := by rw [ByteArray.size_extract]; omega
      go_upto_region 12 with fail
      clear HD HYK HL h4s hs g4 hki hki2 HR4
      generalize s.extract 4 s.size = s4 at *
      have S2 : TS w (wr.alloc (.cells #[.pointer (some ⟨w.heap.size, 1, none⟩), .pointer (some ⟨w.heap.size, 2, none⟩)] 46)) y 0 0 0 0 0 0 0 := S1.out.step ((Below.refl _ _).alloc (Nat.le_refl _) _)
      have hrow : Hid ((wr.alloc (.cells #[.pointer (some ⟨w.heap.size, 1, none⟩), .pointer (some ⟨w.heap.size, 2, none⟩)] 46)).heap[wr.heap.size]? = some (.cells #[.pointer (some ⟨w.heap.size, 1, none⟩), .pointer (some ⟨w.heap.size, 2, none⟩)] 46 (0, 0))) := Lib.hid (heap_alloc_new _ _)
      have hgp : w.heap.size < wr.heap.size := lt_of_heap S1.out.1
      generalize (wr.alloc (.cells #[.pointer (some ⟨w.heap.size, 1, none⟩), .pointer (some ⟨w.heap.size, 2, none⟩)] 46)) = W1 at *
      generalize wr.heap.size = g1 at *
      clear S1
      go_loopw [0, 7, 11, 62] (fun sv ov pv iv W => ∃ (d : ByteArray) (D : Bs), sv = .string d ∧ Hid (StrIs d D) ∧ d.size ≤ 1000 ∧ Hid (W.heap[g1]? = some (.cells #[.pointer (some ⟨w.heap.size, 1, none⟩), .pointer (some ⟨w.heap.size, 2, none⟩)] 46 (0, 0))) ∧ ∃ k m dd : Int, iv = .int .i64 k ∧ TS w W y m dd 0 0 0 0 0 ∧ 0 ≤ m ∧ m ≤ 99 ∧ 0 ≤ dd ∧ dd ≤ 99 ∧
        ((k = 0 ∧ m = 0 ∧ dd = 0 ∧ Hid (D = r4)) ∨ (k = 1 ∧ dd = 0 ∧ Hid (markNum 45 r4 = some (m, D))) ∨ (k = 2 ∧ ∃ D1, Hid (markNum 45 r4 = some (m, D1)) ∧ Hid (markNum 45 D1 = some (dd, D)))))
        (fun _ _ _ iv _ => 2 - (intOf iv).toNat)
      case atStart => exact ⟨s4, r4, rfl, hdr4, hz4, hrow, 0, 0, 0, rfl, S2, by omega, by omega, by omega, by omega, .inl ⟨rfl, rfl, rfl, Lib.hid rfl⟩⟩
      case round =>
        clear S2 hrow hdr4 hz4
        obtain ⟨d, D, rfl, HD, hds, HROW, k, m, dd, rfl, S, hm0, hm1, hd0, hd1, HK⟩ := hrel
        have hp0 := cellv HROW.out 0 _ rfl
        have hp1 := cellv HROW.out 1 _ rfl
        obtain ⟨c1, f1⟩ := S.cell 1 (.int .i64 m) rfl
        obtain ⟨c2, f2⟩ := S.cell 2 (.int .i64 dd) rfl
        rcases HK with ⟨rfl, rfl, rfl, HE⟩ | ⟨rfl, rfl, HM⟩ | ⟨rfl, D1, HM1, HM2⟩
        · skip
          rcases D with _ | ⟨c, r⟩
          · have he := emp_yes HD.out
            have T : Hid (parseP form l = none) := Lib.hid (by rw [PP.out, ← HE.out]; rfl)
            go_wp2_with (first | refine load61 rfl _ rfl _ rfl 61 _ _ S.1 rfl ?_ | refine store61 rfl _ _ rfl _ _ rfl rfl rfl rfl 61 _ S.1 rfl ?_)
            exact bodyPost_ret (v := .tuple #[.agg (tCells y 0 0 0 0 0 0 0), .bool false]) (results_61 Tryz.results106 _ _ _ _ _ _ rfl S.fin.1 rfl) rfl ⟨S.fin.2, y, 0, 0, 0, 0, 0, 0, 0, by rw [T.out]; rfl, by rw [T.out]; intro x h; cases h⟩
          have he := emp_no HD.out
          obtain ⟨hp, hc0⟩ := HD.out.cons
          have hpi : (0 : Int) < (d.size : Int) := by omega
          have HB0 := Lib.hid hc0
          clear hc0
          by_cases hc : c = 45
          rotate_left
          · have f0 : ((d[0].toNat : Int) != 45) = true := neq_yes (c := d[0]) (d := 45) (by rw [HB0.out]; exact hc)
            have T : Hid (parseP form l = none) := Lib.hid (by rw [PP.out, ← HE.out]; simp only [markNum, hc, false_and, if_false, Option.bind_none, Option.bind_some])
            clear hc
            go_wp2_with (first | refine load61 rfl _ rfl _ rfl 61 _ _ S.1 rfl ?_ | refine store61 rfl _ _ rfl _ _ rfl rfl rfl rfl 61 _ S.1 rfl ?_)
            exact bodyPost_ret (v := .tuple #[.agg (tCells y 0 0 0 0 0 0 0), .bool false]) (results_61 Tryz.results106 _ _ _ _ _ _ rfl S.fin.1 rfl) rfl ⟨S.fin.2, y, 0, 0, 0, 0, 0, 0, 0, by rw [T.out]; rfl, by rw [T.out]; intro x h; cases h⟩
          have f0 : ((d[0].toNat : Int) != 45) = false := neq_no (c := d[0]) (d := 45) (by rw [HB0.out]; exact hc)
          have hdr := Lib.hid (HD.out.drop 1)
          have hz : (d.extract 1 d.size).size ≤ 1000 := by rw [ByteArray.size_extract]; omega
          have hp1i : (1 : Int) ≤ (d.size : Int) := by omega
          generalize hN : num2 r = N
          obtain ⟨nv, nn, nr⟩ := N
          have hnb := num2_of hN
          by_cases hn : nn = 0
          · have NC := num_at (b := false) hdr.out hz hN (by rw [hn]; rfl)
            have T : Hid (parseP form l = none) := Lib.hid (by rw [PP.out, ← HE.out]; simp only [markNum, hc, hN, hn, ne_eq, not_true_eq_false, and_false, if_false, Option.bind_none, Option.bind_some])
            clear hc hN hn
            go_wp2_with fail
            refine (NC.out _).mono ?_
            rintro e W' ⟨hB, rs, hrs, hrz, rfl⟩
            replace S := S.step hB
            obtain ⟨c1, f1⟩ := S.cell 1 (.int .i64 0) rfl
            clear NC
            replace S := S.set (b0 := y) (b1 := nv) (b2 := 0) (b3 := 0) (b4 := 0) (b5 := 0) (b6 := 0) (b7 := 0) 1 (.int .i64 nv) rfl
            go_wp2_with (first | refine load61 rfl _ rfl _ rfl 61 _ _ S.1 rfl ?_ | refine store61 rfl _ _ rfl _ _ rfl rfl rfl rfl 61 _ S.1 rfl ?_)
            exact bodyPost_ret (v := .tuple #[.agg (tCells y nv 0 0 0 0 0 0), .bool false]) (results_61 Tryz.results106 _ _ _ _ _ _ rfl S.fin.1 rfl) rfl ⟨S.fin.2, y, nv, 0, 0, 0, 0, 0, 0, by rw [T.out]; rfl, by rw [T.out]; intro x h; cases h⟩
          have NC := num_at (b := true) hdr.out hz hN (by simpa using hn)
          have HMN : Hid (markNum 45 (c :: r) = some (nv, nr)) := Lib.hid (by simp [markNum, hc, hN, hn])
          clear hc hN hn
          go_wp2_with fail
          refine (NC.out _).mono ?_
          rintro e W' ⟨hB, rs, hrs, hrz, rfl⟩
          have HROW2 : Hid (W'.heap[g1]? = some (.cells #[.pointer (some ⟨w.heap.size, 1, none⟩), .pointer (some ⟨w.heap.size, 2, none⟩)] 46 (0, 0))) := Lib.hid (hg_below hB (lt_of_heap HROW.out) HROW.out)
          replace S := S.step hB
          obtain ⟨c1, f1⟩ := S.cell 1 (.int .i64 0) rfl
          clear NC
          replace S := S.set (b0 := y) (b1 := nv) (b2 := 0) (b3 := 0) (b4 := 0) (b5 := 0) (b6 := 0) (b7 := 0) 1 (.int .i64 nv) rfl
          go_wp2
          go_round
          case rel => exact ⟨rs, nr, rfl, hrs, hrz, Lib.hid (by rw [heap_setCell_other _ _ _ _ (by simp; omega)]; exact HROW2.out), 1, nv, 0, rfl, S, by omega, by omega, by omega, by omega, .inr (.inl ⟨rfl, rfl, Lib.hid (by rw [← HE.out]; exact HMN.out)⟩)⟩
          case measure => simp only [intOf]; omega
        · skip
          rcases D with _ | ⟨c, r⟩
          · have he := emp_yes HD.out
            have T : Hid (parseP form l = none) := Lib.hid (by rw [PP.out, HM.out]; rfl)
            go_wp2_with (first | refine load61 rfl _ rfl _ rfl 61 _ _ S.1 rfl ?_ | refine store61 rfl _ _ rfl _ _ rfl rfl rfl rfl 61 _ S.1 rfl ?_)
            exact bodyPost_ret (v := .tuple #[.agg (tCells y m 0 0 0 0 0 0), .bool false]) (results_61 Tryz.results106 _ _ _ _ _ _ rfl S.fin.1 rfl) rfl ⟨S.fin.2, y, m, 0, 0, 0, 0, 0, 0, by rw [T.out]; rfl, by rw [T.out]; intro x h; cases h⟩
          have he := emp_no HD.out
          obtain ⟨hp, hc0⟩ := HD.out.cons
          have hpi : (0 : Int) < (d.size : Int) := by omega
          have HB0 := Lib.hid hc0
          clear hc0
          by_cases hc : c = 45
          rotate_left
          · have f0 : ((d[0].toNat : Int) != 45) = true := neq_yes (c := d[0]) (d := 45) (by rw [HB0.out]; exact hc)
            have T : Hid (parseP form l = none) := Lib.hid (by rw [PP.out, HM.out]; simp only [markNum, hc, false_and, if_false, Option.bind_none, Option.bind_some])
            clear hc
            go_wp2_with (first | refine load61 rfl _ rfl _ rfl 61 _ _ S.1 rfl ?_ | refine store61 rfl _ _ rfl _ _ rfl rfl rfl rfl 61 _ S.1 rfl ?_)
            exact bodyPost_ret (v := .tuple #[.agg (tCells y m 0 0 0 0 0 0), .bool false]) (results_61 Tryz.results106 _ _ _ _ _ _ rfl S.fin.1 rfl) rfl ⟨S.fin.2, y, m, 0, 0, 0, 0, 0, 0, by rw [T.out]; rfl, by rw [T.out]; intro x h; cases h⟩
          have f0 : ((d[0].toNat : Int) != 45) = false := neq_no (c := d[0]) (d := 45) (by rw [HB0.out]; exact hc)
          have hdr := Lib.hid (HD.out.drop 1)
          have hz : (d.extract 1 d.size).size ≤ 1000 := by rw [ByteArray.size_extract]; omega
          have hp1i : (1 : Int) ≤ (d.size : Int) := by omega
          generalize hN : num2 r = N
          obtain ⟨nv, nn, nr⟩ := N
          have hnb := num2_of hN
          by_cases hn : nn = 0
          · have NC := num_at (b := false) hdr.out hz hN (by rw [hn]; rfl)
            have T : Hid (parseP form l = none) := Lib.hid (by rw [PP.out, HM.out]; simp only [markNum, hc, hN, hn, ne_eq, not_true_eq_false, and_false, if_false, Option.bind_none, Option.bind_some])
            clear hc hN hn
            go_wp2_with fail
            refine (NC.out _).mono ?_
            rintro e W' ⟨hB, rs, hrs, hrz, rfl⟩
            replace S := S.step hB
            obtain ⟨c2, f2⟩ := S.cell 2 (.int .i64 0) rfl
            clear NC
            replace S := S.set (b0 := y) (b1 := m) (b2 := nv) (b3 := 0) (b4 := 0) (b5 := 0) (b6 := 0) (b7 := 0) 2 (.int .i64 nv) rfl
            go_wp2_with (first | refine load61 rfl _ rfl _ rfl 61 _ _ S.1 rfl ?_ | refine store61 rfl _ _ rfl _ _ rfl rfl rfl rfl 61 _ S.1 rfl ?_)
            exact bodyPost_ret (v := .tuple #[.agg (tCells y m nv 0 0 0 0 0), .bool false]) (results_61 Tryz.results106 _ _ _ _ _ _ rfl S.fin.1 rfl) rfl ⟨S.fin.2, y, m, nv, 0, 0, 0, 0, 0, by rw [T.out]; rfl, by rw [T.out]; intro x h; cases h⟩
          have NC := num_at (b := true) hdr.out hz hN (by simpa using hn)
          have HMN : Hid (markNum 45 (c :: r) = some (nv, nr)) := Lib.hid (by simp [markNum, hc, hN, hn])
          clear hc hN hn
          go_wp2_with fail
          refine (NC.out _).mono ?_
          rintro e W' ⟨hB, rs, hrs, hrz, rfl⟩
          have HROW2 : Hid (W'.heap[g1]? = some (.cells #[.pointer (some ⟨w.heap.size, 1, none⟩), .pointer (some ⟨w.heap.size, 2, none⟩)] 46 (0, 0))) := Lib.hid (hg_below hB (lt_of_heap HROW.out) HROW.out)
          replace S := S.step hB
          obtain ⟨c2, f2⟩ := S.cell 2 (.int .i64 0) rfl
          clear NC
          replace S := S.set (b0 := y) (b1 := m) (b2 := nv) (b3 := 0) (b4 := 0) (b5 := 0) (b6 := 0) (b7 := 0) 2 (.int .i64 nv) rfl
          go_wp2
          go_round
          case rel => exact ⟨rs, nr, rfl, hrs, hrz, Lib.hid (by rw [heap_setCell_other _ _ _ _ (by simp; omega)]; exact HROW2.out), 2, m, nv, rfl, S, by omega, by omega, by omega, by omega, .inr (.inr ⟨rfl, _, HM, HMN⟩)⟩
          case measure => simp only [intOf]; omega
        · as_aux_lemma =>
          have PD : Hid (parseP form l = (if m < 1 ∨ 12 < m ∨ dd < 1 ∨ daysOf y m < dd then (none : Option (Int × Int × Int × Bs)) else some (y, m, dd, D)).bind fun a => if form = 0 then (if a.2.2.2 = [] then some [a.1, a.2.1, a.2.2.1, 0, 0, 0, 0, 0] else none) else restP form a.1 a.2.1 a.2.2.1 a.2.2.2) := Lib.hid (by rw [PP.out, HM1.out, Option.bind_some, HM2.out, Option.bind_some])
          clear PP HM1 HM2 hp0 hp1 f1 f2 HROW
          obtain ⟨c0, _⟩ := S.cell 0 (.int .i64 y) rfl
          go_upto_region 20 with fail
          by_cases hm : m < 1
          · have T : Hid (parseP form l = none) := Lib.hid (by rw [PD.out, if_pos (.inl hm)]; rfl)
            go_quiet (fail)
            rename_i nq
            replace S := S.drewN nq
            go_wp2_with (first | refine load61 rfl _ rfl _ rfl 61 _ _ S.1 rfl ?_ | refine store61 rfl _ _ rfl _ _ rfl rfl rfl rfl 61 _ S.1 rfl ?_)
            exact bodyPost_ret (v := .tuple #[.agg (tCells y m dd 0 0 0 0 0), .bool false]) (results_61 Tryz.results106 _ _ _ _ _ _ rfl S.fin.1 rfl) rfl ⟨S.fin.2, y, m, dd, 0, 0, 0, 0, 0, by rw [T.out]; rfl, by rw [T.out]; intro x h; cases h⟩
          have k1 : decide (m < 1) = false := by simp; omega
          have k1b : 1 ≤ m := by omega
          by_cases hm2 : 12 < m
          · have T : Hid (parseP form l = none) := Lib.hid (by rw [PD.out, if_pos (.inr (.inl hm2))]; rfl)
            go_quiet (fail)
            rename_i nq
            replace S := S.drewN nq
            go_wp2_with (first | refine load61 rfl _ rfl _ rfl 61 _ _ S.1 rfl ?_ | refine store61 rfl _ _ rfl _ _ rfl rfl rfl rfl 61 _ S.1 rfl ?_)
            exact bodyPost_ret (v := .tuple #[.agg (tCells y m dd 0 0 0 0 0), .bool false]) (results_61 Tryz.results106 _ _ _ _ _ _ rfl S.fin.1 rfl) rfl ⟨S.fin.2, y, m, dd, 0, 0, 0, 0, 0, by rw [T.out]; rfl, by rw [T.out]; intro x h; cases h⟩
          have k2 : decide (12 < m) = false := by simp; omega
          have k2b : m ≤ 12 := by omega
          by_cases hd : dd < 1
          · have T : Hid (parseP form l = none) := Lib.hid (by rw [PD.out, if_pos (.inr (.inr (.inl hd)))]; rfl)
            go_quiet (fail)
            rename_i nq
            replace S := S.drewN nq
            go_wp2_with (first | refine load61 rfl _ rfl _ rfl 61 _ _ S.1 rfl ?_ | refine store61 rfl _ _ rfl _ _ rfl rfl rfl rfl 61 _ S.1 rfl ?_)
            exact bodyPost_ret (v := .tuple #[.agg (tCells y m dd 0 0 0 0 0), .bool false]) (results_61 Tryz.results106 _ _ _ _ _ _ rfl S.fin.1 rfl) rfl ⟨S.fin.2, y, m, dd, 0, 0, 0, 0, 0, by rw [T.out]; rfl, by rw [T.out]; intro x h; cases h⟩
          have k3 : decide (dd < 1) = false := by simp; omega
          have k3b : 1 ≤ dd := by omega
          have DC : Hid (∀ w, Calls Tryz.prog 126 #[.int .i64 y, .int .i64 m] w fun e w' => e = .returned (.int .i64 (daysOf y m)) ∧ w' = w) := Lib.hid (fun w => (days_any y m w hyb0 hyb1 hm0 hm1).mono (fun _ _ h => ⟨h.1, h.2.symm⟩))
          by_cases hdm : daysOf y m < dd
          · have T : Hid (parseP form l = none) := Lib.hid (by rw [PD.out, if_pos (.inr (.inr (.inr hdm)))]; rfl)
            go_quiet (first | (go_at_call 126; refine Calls.quiet_of_same (DC.out _)))
            rename_i nq
            replace S := S.drewN nq
            go_wp2_with (first | refine load61 rfl _ rfl _ rfl 61 _ _ S.1 rfl ?_ | refine store61 rfl _ _ rfl _ _ rfl rfl rfl rfl 61 _ S.1 rfl ?_)
            exact bodyPost_ret (v := .tuple #[.agg (tCells y m dd 0 0 0 0 0), .bool false]) (results_61 Tryz.results106 _ _ _ _ _ _ rfl S.fin.1 rfl) rfl ⟨S.fin.2, y, m, dd, 0, 0, 0, 0, 0, by rw [T.out]; rfl, by rw [T.out]; intro x h; cases h⟩
          have PQ : Hid (parseP form l = if form = 0 then (if D = [] then some [y, m, dd, 0, 0, 0, 0, 0] else none) else restP form y m dd D) := Lib.hid (by rw [PD.out, if_neg (by omega)]; rfl)
          have k4 : decide (daysOf y m < dd) = false := by simp; omega
          have k4b : dd ≤ daysOf y m := by omega
          clear PD hm hm2 hd hdm
          go_quiet (first | (go_at_call 126; refine Calls.quiet_of_same (DC.out _)))
          clear DC k1 k2 k3 k4 k1b k2b k3b k4b hm0 hm1 hd0 hd1 hyb0 hyb1
          rename_i nq
          replace S := S.drewN nq
          obtain ⟨c0, f0⟩ := S.cell 0 (.int .i64 y) rfl
          clear c0 f0 c1 c2
          by_cases hf0 : form = 0
          · have f0 : ((form.toNat : Int) == 0) = true := byte_eq (c := form) (d := 0) hf0
            rcases D with _ | ⟨c, r⟩
            · have he := emp_yes HD.out
              have T : Hid (parseP form l = some [y, m, dd, 0, 0, 0, 0, 0]) := Lib.hid (by rw [PQ.out, if_pos hf0, if_pos rfl])
              clear hf0
              go_wp2_with (first | refine load61 rfl _ rfl _ rfl 61 _ _ S.1 rfl ?_ | refine store61 rfl _ _ rfl _ _ rfl rfl rfl rfl 61 _ S.1 rfl ?_)
              exact bodyPost_ret (v := .tuple #[.agg (tCells y m dd 0 0 0 0 0), .bool true]) (results_61 Tryz.results106 _ _ _ _ _ _ rfl S.fin.1 rfl) rfl ⟨S.fin.2, y, m, dd, 0, 0, 0, 0, 0, by rw [T.out]; rfl, by rw [T.out]; intro x h; exact (Option.some.inj h).symm⟩
            · have he := emp_no HD.out
              have T : Hid (parseP form l = none) := Lib.hid (by rw [PQ.out, if_pos hf0, if_neg (by simp)])
              clear hf0
              go_wp2_with (first | refine load61 rfl _ rfl _ rfl 61 _ _ S.1 rfl ?_ | refine store61 rfl _ _ rfl _ _ rfl rfl rfl rfl 61 _ S.1 rfl ?_)
              exact bodyPost_ret (v := .tuple #[.agg (tCells y m dd 0 0 0 0 0), .bool false]) (results_61 Tryz.results106 _ _ _ _ _ _ rfl S.fin.1 rfl) rfl ⟨S.fin.2, y, m, dd, 0, 0, 0, 0, 0, by rw [T.out]; rfl, by rw [T.out]; intro x h; cases h⟩
          have f0 : ((form.toNat : Int) == 0) = false := byte_ne (c := form) (d := 0) hf0
          have PR : Hid (parseP form l = restP form y m dd D) := Lib.hid (by rw [PQ.out, if_neg hf0])
          clear hf0 PQ
          rcases D with _ | ⟨c, r⟩
          · have he := emp_yes HD.out
            have T : Hid (parseP form l = none) := Lib.hid (by rw [PR.out]; rfl)
            go_wp2_with (first | refine load61 rfl _ rfl _ rfl 61 _ _ S.1 rfl ?_ | refine store61 rfl _ _ rfl _ _ rfl rfl rfl rfl 61 _ S.1 rfl ?_)
            exact bodyPost_ret (v := .tuple #[.agg (tCells y m dd 0 0 0 0 0), .bool false]) (results_61 Tryz.results106 _ _ _ _ _ _ rfl S.fin.1 rfl) rfl ⟨S.fin.2, y, m, dd, 0, 0, 0, 0, 0, by rw [T.out]; rfl, by rw [T.out]; intro x h; cases h⟩
          have he := emp_no HD.out
          obtain ⟨hp, hc0⟩ := HD.out.cons
          have hpi : (0 : Int) < (d.size : Int) := by omega
          have HB0 := Lib.hid hc0
          clear hc0
          by_cases hc : c = form
          rotate_left
          · have f1 : ((d[0].toNat : Int) != (form.toNat : Int)) = true := neq_yes (by rw [HB0.out]; exact hc)
            have T : Hid (parseP form l = none) := Lib.hid (by rw [PR.out]; exact if_neg hc)
            clear hc
            go_wp2_with (first | refine load61 rfl _ rfl _ rfl 61 _ _ S.1 rfl ?_ | refine store61 rfl _ _ rfl _ _ rfl rfl rfl rfl 61 _ S.1 rfl ?_)
            exact bodyPost_ret (v := .tuple #[.agg (tCells y m dd 0 0 0 0 0), .bool false]) (results_61 Tryz.results106 _ _ _ _ _ _ rfl S.fin.1 rfl) rfl ⟨S.fin.2, y, m, dd, 0, 0, 0, 0, 0, by rw [T.out]; rfl, by rw [T.out]; intro x h; cases h⟩
          have f1 : ((d[0].toNat : Int) != (form.toNat : Int)) = false := neq_no (by rw [HB0.out]; exact hc)
          have PS : Hid (parseP form l = clockP form y m dd (if form = 32 then r.dropWhile (· = 32) else r)) := Lib.hid (by rw [PR.out]; exact if_pos hc)
          have hdr := Lib.hid (HD.out.drop 1)
          have hz : (d.extract 1 d.size).size ≤ 1000 := by rw [ByteArray.size_extract]; omega
          have hp1i : (1 : Int) ≤ (d.size : Int) := by omega
          clear hc PR
          go_upto_block 4 with fail
          go_cut [0] from 128 to 140 (fun sv wc => ∃ (E : ByteArray) (EL : Bs), sv = .string E ∧ Hid (StrIs E EL) ∧ E.size ≤ 1000 ∧ Hid (parseP form l = clockP form y m dd EL) ∧ TS w wc y m dd 0 0 0 0 0)
          case first => as_aux_lemma =>
            go_wp2_with fail
            go_loopw [0] (fun sv wc => ∃ (E : ByteArray) (EL : Bs), sv = .string E ∧ Hid (StrIs E EL) ∧ E.size ≤ 1000 ∧ Hid (parseP form l = clockP form y m dd (if form = 32 then EL.dropWhile (· = 32) else EL)) ∧ TS w wc y m dd 0 0 0 0 0) (fun sv _ => szOf sv)
            case atStart => exact ⟨_, r, rfl, hdr, hz, PS, S⟩
            case round =>
              clear S hdr hz PS he hpi hp1i f1 HD HB0
              obtain ⟨E, EL, rfl, HE, hez, PT, S⟩ := hrel
              by_cases h32 : form = 32
              rotate_left
              · have g32 : ((form.toNat : Int) == 32) = false := byte_ne (c := form) (d := 32) h32
                have PU : Hid (parseP form l = clockP form y m dd EL) := Lib.hid (by rw [PT.out, if_neg h32])
                clear h32
                go_wp2
                go_meet
                case rel => exact ⟨E, EL, rfl, HE, hez, PU, S⟩
              have g32 : ((form.toNat : Int) == 32) = true := byte_eq (c := form) (d := 32) h32
              have PU : Hid (parseP form l = clockP form y m dd (EL.dropWhile (· = 32))) := Lib.hid (by rw [PT.out, if_pos h32])
              have P3 := Lib.hid h32
              clear h32
              rcases EL with _ | ⟨c2, r2⟩
              · have he := emp_yes HE.out
                have he2 : (!E.toList.isEmpty) = false := by rw [he]; rfl
                go_wp2
                go_meet
                case rel => exact ⟨E, [], rfl, HE, hez, PU, S⟩
              have he := emp_no HE.out
              have he2 : (!E.toList.isEmpty) = true := by rw [he]; rfl
              obtain ⟨hp2, hc0⟩ := HE.out.cons
              have hpi2 : (0 : Int) < (E.size : Int) := by omega
              have hpi3 : (1 : Int) ≤ (E.size : Int) := by omega
              have HB1 := Lib.hid hc0
              clear hc0
              by_cases hc : c2 = 32
              · have g2 : ((E[0].toNat : Int) == 32) = true := byte_eq (c := E[0]) (d := 32) (by rw [HB1.out]; exact hc)
                have PV : Hid (parseP form l = clockP form y m dd (if form = 32 then r2.dropWhile (· = 32) else r2)) := Lib.hid (by rw [PU.out, hc, if_pos P3.out]; simp)
                have hdr2 := Lib.hid (HE.out.drop 1)
                have hez2 : (E.extract 1 E.size).size ≤ 1000 := by rw [ByteArray.size_extract]; omega
                have hez3 : (E.extract 1 E.size).size < E.size := by rw [ByteArray.size_extract]; omega
                clear hc
                go_wp2
                go_round
                case rel => exact ⟨_, r2, rfl, hdr2, hez2, PV, S⟩
                case measure => simp only [szOf]; exact hez3
              · have g2 : ((E[0].toNat : Int) == 32) = false := byte_ne (c := E[0]) (d := 32) (by rw [HB1.out]; exact hc)
                have PV : Hid (parseP form l = clockP form y m dd (c2 :: r2)) := Lib.hid (by rw [PU.out]; simp [hc])
                clear hc
                go_wp2
                go_meet
                case rel => exact ⟨E, c2 :: r2, rfl, HE, hez, PV, S⟩
          case rest => as_aux_lemma =>
          clear S hdr hz PS he hpi hp1i f1 HD HB0
          obtain ⟨E, EL, rfl, HE, hez, PT, S⟩ := hcut
          go_upto_region 30 with fail
          have hrow : Hid ((wc.alloc (.cells #[.pointer (some ⟨w.heap.size, 3, none⟩), .pointer (some ⟨w.heap.size, 4, none⟩), .pointer (some ⟨w.heap.size, 5, none⟩)] 46)).heap[wc.heap.size]? = some (.cells #[.pointer (some ⟨w.heap.size, 3, none⟩), .pointer (some ⟨w.heap.size, 4, none⟩), .pointer (some ⟨w.heap.size, 5, none⟩)] 46 (0, 0))) := Lib.hid (heap_alloc_new _ _)
          have S2 : TS w (wc.alloc (.cells #[.pointer (some ⟨w.heap.size, 3, none⟩), .pointer (some ⟨w.heap.size, 4, none⟩), .pointer (some ⟨w.heap.size, 5, none⟩)] 46)) y m dd 0 0 0 0 0 := S.step ((Below.refl _ _).alloc (Nat.le_refl _) _)
          have hgp3 : w.heap.size < wc.heap.size := lt_of_heap S.1
          generalize (wc.alloc (.cells #[.pointer (some ⟨w.heap.size, 3, none⟩), .pointer (some ⟨w.heap.size, 4, none⟩), .pointer (some ⟨w.heap.size, 5, none⟩)] 46)) = W3 at *
          generalize wc.heap.size = g3 at *
          clear S
          go_loopw [0, 7, 12, 13, 146] (fun sv ov jv pv iv W => ∃ (d : ByteArray) (D : Bs), sv = .string d ∧ Hid (StrIs d D) ∧ d.size ≤ 1000 ∧ Hid (W.heap[g3]? = some (.cells #[.pointer (some ⟨w.heap.size, 3, none⟩), .pointer (some ⟨w.heap.size, 4, none⟩), .pointer (some ⟨w.heap.size, 5, none⟩)] 46 (0, 0))) ∧ ∃ k h mi se : Int, iv = .int .i64 k ∧ TS w W y m dd h mi se 0 0 ∧
            ((k = 0 ∧ h = 0 ∧ mi = 0 ∧ se = 0 ∧ Hid (D = EL)) ∨ (k = 1 ∧ mi = 0 ∧ se = 0 ∧ Hid (numB 24 EL = some (h, D))) ∨ (k = 2 ∧ se = 0 ∧ ∃ D1, Hid (numB 24 EL = some (h, D1)) ∧ Hid (markB 60 D1 = some (mi, D))) ∨ (k = 3 ∧ ∃ D1 D2, Hid (numB 24 EL = some (h, D1)) ∧ Hid (markB 60 D1 = some (mi, D2)) ∧ Hid (markB 60 D2 = some (se, D)))))
            (fun _ _ _ _ iv _ => 3 - (intOf iv).toNat)
          case atStart => exact ⟨E, EL, rfl, HE, hez, hrow, 0, 0, 0, 0, rfl, S2, .inl ⟨rfl, rfl, rfl, rfl, Lib.hid rfl⟩⟩
          case round =>
          clear S2 hrow HE hez
          obtain ⟨d, D, rfl, HD, hds, HROW, k, h, mi, se, rfl, S, HK⟩ := hrel
          have hp0 := cellv HROW.out 0 _ rfl
          have hp1 := cellv HROW.out 1 _ rfl
          have hp2 := cellv HROW.out 2 _ rfl
          rcases HK with ⟨rfl, rfl, rfl, rfl, HE⟩ | ⟨rfl, rfl, rfl, HM1⟩ | ⟨rfl, rfl, D1, HM1, HM2⟩ | ⟨rfl, D1, D2, HM1, HM2, HM3⟩
          · skip
            have hdr := HD
            have hz := hds
            generalize hN : num2 D = N
            obtain ⟨nv, nn, nr⟩ := N
            have hnb := num2_of hN
            by_cases hn : nn = 0
            · have NC := num_at (b := false) hdr.out hz hN (by rw [hn]; rfl)
              have hmb : numB 24 D = none := by unfold numB; rw [hN]; exact if_neg (fun h => h.1 hn)
              have T : Hid (parseP form l = none) := Lib.hid (by rw [PT.out]; simp only [clockP, ← HE.out, hmb, Option.bind_some, Option.bind_none])
              clear hmb hN hn 
              go_wp2_with fail
              refine (NC.out _).mono ?_
              rintro e W' ⟨hB, rs, hrs, hrz, rfl⟩
              replace S := S.step hB
              obtain ⟨c3, f3⟩ := S.cell 3 (.int .i64 0) rfl
              clear NC
              replace S := S.set (b0 := y) (b1 := m) (b2 := dd) (b3 := nv) (b4 := 0) (b5 := 0) (b6 := 0) (b7 := 0) 3 (.int .i64 nv) rfl
              go_wp2_with (first | refine load61 rfl _ rfl _ rfl 61 _ _ S.1 rfl ?_ | refine store61 rfl _ _ rfl _ _ rfl rfl rfl rfl 61 _ S.1 rfl ?_)
              exact bodyPost_ret (v := .tuple #[.agg (tCells y m dd nv 0 0 0 0), .bool false]) (results_61 Tryz.results106 _ _ _ _ _ _ rfl S.fin.1 rfl) rfl ⟨S.fin.2, y, m, dd, nv, 0, 0, 0, 0, by rw [T.out]; rfl, by rw [T.out]; intro x h; cases h⟩
            have NC := num_at (b := true) hdr.out hz hN (by simpa using hn)
            by_cases hl60 : 60 ≤ nv
            · have hmb : numB 24 D = none := by unfold numB; rw [hN]; exact if_neg (fun h => by have h2 := h.2; simp only at h2; omega)
              have T : Hid (parseP form l = none) := Lib.hid (by rw [PT.out]; simp only [clockP, ← HE.out, hmb, Option.bind_some, Option.bind_none])
              clear hmb hN hn 
              go_wp2_with fail
              refine (NC.out _).mono ?_
              rintro e W' ⟨hB, rs, hrs, hrz, rfl⟩
              have HROW2 : Hid (W'.heap[g3]? = some (.cells #[.pointer (some ⟨w.heap.size, 3, none⟩), .pointer (some ⟨w.heap.size, 4, none⟩), .pointer (some ⟨w.heap.size, 5, none⟩)] 46 (0, 0))) := Lib.hid (hg_below hB (lt_of_heap HROW.out) HROW.out)
              replace S := S.step hB
              obtain ⟨c3, f3⟩ := S.cell 3 (.int .i64 0) rfl
              clear NC
              replace S := S.set (b0 := y) (b1 := m) (b2 := dd) (b3 := nv) (b4 := 0) (b5 := 0) (b6 := 0) (b7 := 0) 3 (.int .i64 nv) rfl
              obtain ⟨q3, _⟩ := S.cell 3 (.int .i64 nv) rfl
              go_wp2_with (first | refine load61 rfl _ rfl _ rfl 61 _ _ S.1 rfl ?_ | refine store61 rfl _ _ rfl _ _ rfl rfl rfl rfl 61 _ S.1 rfl ?_)
              exact bodyPost_ret (v := .tuple #[.agg (tCells y m dd nv 0 0 0 0), .bool false]) (results_61 Tryz.results106 _ _ _ _ _ _ rfl S.fin.1 rfl) rfl ⟨S.fin.2, y, m, dd, nv, 0, 0, 0, 0, by rw [T.out]; rfl, by rw [T.out]; intro x h; cases h⟩
            have l60 : decide (60 ≤ nv) = false := by simp; omega
            have l60b : nv < 60 := by omega
            by_cases hl24 : 24 ≤ nv
            · have hmb : numB 24 D = none := by unfold numB; rw [hN]; exact if_neg (fun h => by have h2 := h.2; simp only at h2; omega)
              have T : Hid (parseP form l = none) := Lib.hid (by rw [PT.out]; simp only [clockP, ← HE.out, hmb, Option.bind_some, Option.bind_none])
              clear hmb hN hn hl60
              go_wp2_with fail
              refine (NC.out _).mono ?_
              rintro e W' ⟨hB, rs, hrs, hrz, rfl⟩
              have HROW2 : Hid (W'.heap[g3]? = some (.cells #[.pointer (some ⟨w.heap.size, 3, none⟩), .pointer (some ⟨w.heap.size, 4, none⟩), .pointer (some ⟨w.heap.size, 5, none⟩)] 46 (0, 0))) := Lib.hid (hg_below hB (lt_of_heap HROW.out) HROW.out)
              replace S := S.step hB
              obtain ⟨c3, f3⟩ := S.cell 3 (.int .i64 0) rfl
              clear NC
              replace S := S.set (b0 := y) (b1 := m) (b2 := dd) (b3 := nv) (b4 := 0) (b5 := 0) (b6 := 0) (b7 := 0) 3 (.int .i64 nv) rfl
              obtain ⟨q3, _⟩ := S.cell 3 (.int .i64 nv) rfl
              go_wp2_with (first | refine load61 rfl _ rfl _ rfl 61 _ _ S.1 rfl ?_ | refine store61 rfl _ _ rfl _ _ rfl rfl rfl rfl 61 _ S.1 rfl ?_)
              exact bodyPost_ret (v := .tuple #[.agg (tCells y m dd nv 0 0 0 0), .bool false]) (results_61 Tryz.results106 _ _ _ _ _ _ rfl S.fin.1 rfl) rfl ⟨S.fin.2, y, m, dd, nv, 0, 0, 0, 0, by rw [T.out]; rfl, by rw [T.out]; intro x h; cases h⟩
            have l24 : decide (24 ≤ nv) = false := by simp; omega
            have l24b : nv < 24 := by omega
            clear hl24
            have HMB : Hid (numB 24 D = some (nv, nr)) := Lib.hid (by unfold numB; rw [hN]; exact if_pos ⟨hn, by simp only; omega⟩)
            clear hl60 hN hn 
            go_wp2_with fail
            refine (NC.out _).mono ?_
            rintro e W' ⟨hB, rs, hrs, hrz, rfl⟩
            have HROW2 : Hid (W'.heap[g3]? = some (.cells #[.pointer (some ⟨w.heap.size, 3, none⟩), .pointer (some ⟨w.heap.size, 4, none⟩), .pointer (some ⟨w.heap.size, 5, none⟩)] 46 (0, 0))) := Lib.hid (hg_below hB (lt_of_heap HROW.out) HROW.out)
            replace S := S.step hB
            obtain ⟨c3, f3⟩ := S.cell 3 (.int .i64 0) rfl
            clear NC
            replace S := S.set (b0 := y) (b1 := m) (b2 := dd) (b3 := nv) (b4 := 0) (b5 := 0) (b6 := 0) (b7 := 0) 3 (.int .i64 nv) rfl
            obtain ⟨q3, _⟩ := S.cell 3 (.int .i64 nv) rfl
            go_wp2
            go_round
            case rel => exact ⟨rs, nr, rfl, hrs, hrz, Lib.hid (by rw [heap_setCell_other _ _ _ _ (by simp; omega)]; exact HROW2.out), 1, nv, 0, 0, rfl, S, .inr (.inl ⟨rfl, rfl, rfl, Lib.hid (by rw [← HE.out]; exact HMB.out)⟩)⟩
            case measure => simp only [intOf]; omega
          · skip
            rcases D with _ | ⟨c, r⟩
            · have he := emp_yes HD.out
              have hmb : markB 60 [] = none := rfl
              have T : Hid (parseP form l = none) := Lib.hid (by rw [PT.out]; simp only [clockP, HM1.out, hmb, Option.bind_some, Option.bind_none])
              go_wp2_with (first | refine load61 rfl _ rfl _ rfl 61 _ _ S.1 rfl ?_ | refine store61 rfl _ _ rfl _ _ rfl rfl rfl rfl 61 _ S.1 rfl ?_)
              exact bodyPost_ret (v := .tuple #[.agg (tCells y m dd h 0 0 0 0), .bool false]) (results_61 Tryz.results106 _ _ _ _ _ _ rfl S.fin.1 rfl) rfl ⟨S.fin.2, y, m, dd, h, 0, 0, 0, 0, by rw [T.out]; rfl, by rw [T.out]; intro x h; cases h⟩
            have he := emp_no HD.out
            obtain ⟨hp, hc0⟩ := HD.out.cons
            have hpi : (0 : Int) < (d.size : Int) := by omega
            have HB0 := Lib.hid hc0
            clear hc0
            by_cases hc : c = 58
            rotate_left
            · have f0 : ((d[0].toNat : Int) != 58) = true := neq_yes (c := d[0]) (d := 58) (by rw [HB0.out]; exact hc)
              have hmb : markB 60 (c :: r) = none := if_neg hc
              have T : Hid (parseP form l = none) := Lib.hid (by rw [PT.out]; simp only [clockP, HM1.out, hmb, Option.bind_some, Option.bind_none])
              clear hc hmb
              go_wp2_with (first | refine load61 rfl _ rfl _ rfl 61 _ _ S.1 rfl ?_ | refine store61 rfl _ _ rfl _ _ rfl rfl rfl rfl 61 _ S.1 rfl ?_)
              exact bodyPost_ret (v := .tuple #[.agg (tCells y m dd h 0 0 0 0), .bool false]) (results_61 Tryz.results106 _ _ _ _ _ _ rfl S.fin.1 rfl) rfl ⟨S.fin.2, y, m, dd, h, 0, 0, 0, 0, by rw [T.out]; rfl, by rw [T.out]; intro x h; cases h⟩
            have f0 : ((d[0].toNat : Int) != 58) = false := neq_no (c := d[0]) (d := 58) (by rw [HB0.out]; exact hc)
            have hdr := Lib.hid (HD.out.drop 1)
            have hz : (d.extract 1 d.size).size ≤ 1000 := by rw [ByteArray.size_extract]; omega
            have hp1i : (1 : Int) ≤ (d.size : Int) := by omega
            generalize hN : num2 r = N
            obtain ⟨nv, nn, nr⟩ := N
            have hnb := num2_of hN
            by_cases hn : nn = 0
            · have NC := num_at (b := false) hdr.out hz hN (by rw [hn]; rfl)
              have hmb : markB 60 (c :: r) = none := by rw [show markB 60 (c :: r) = numB 60 r from if_pos hc]; unfold numB; rw [hN]; exact if_neg (fun h => h.1 hn)
              have T : Hid (parseP form l = none) := Lib.hid (by rw [PT.out]; simp only [clockP, HM1.out, hmb, Option.bind_some, Option.bind_none])
              clear hmb hN hn hc
              go_wp2_with fail
              refine (NC.out _).mono ?_
              rintro e W' ⟨hB, rs, hrs, hrz, rfl⟩
              replace S := S.step hB
              obtain ⟨c4, f4⟩ := S.cell 4 (.int .i64 0) rfl
              clear NC
              replace S := S.set (b0 := y) (b1 := m) (b2 := dd) (b3 := h) (b4 := nv) (b5 := 0) (b6 := 0) (b7 := 0) 4 (.int .i64 nv) rfl
              go_wp2_with (first | refine load61 rfl _ rfl _ rfl 61 _ _ S.1 rfl ?_ | refine store61 rfl _ _ rfl _ _ rfl rfl rfl rfl 61 _ S.1 rfl ?_)
              exact bodyPost_ret (v := .tuple #[.agg (tCells y m dd h nv 0 0 0), .bool false]) (results_61 Tryz.results106 _ _ _ _ _ _ rfl S.fin.1 rfl) rfl ⟨S.fin.2, y, m, dd, h, nv, 0, 0, 0, by rw [T.out]; rfl, by rw [T.out]; intro x h; cases h⟩
            have NC := num_at (b := true) hdr.out hz hN (by simpa using hn)
            by_cases hl60 : 60 ≤ nv
            · have hmb : markB 60 (c :: r) = none := by rw [show markB 60 (c :: r) = numB 60 r from if_pos hc]; unfold numB; rw [hN]; exact if_neg (fun h => by have h2 := h.2; simp only at h2; omega)
              have T : Hid (parseP form l = none) := Lib.hid (by rw [PT.out]; simp only [clockP, HM1.out, hmb, Option.bind_some, Option.bind_none])
              clear hmb hN hn hc
              go_wp2_with fail
              refine (NC.out _).mono ?_
              rintro e W' ⟨hB, rs, hrs, hrz, rfl⟩
              have HROW2 : Hid (W'.heap[g3]? = some (.cells #[.pointer (some ⟨w.heap.size, 3, none⟩), .pointer (some ⟨w.heap.size, 4, none⟩), .pointer (some ⟨w.heap.size, 5, none⟩)] 46 (0, 0))) := Lib.hid (hg_below hB (lt_of_heap HROW.out) HROW.out)
              replace S := S.step hB
              obtain ⟨c4, f4⟩ := S.cell 4 (.int .i64 0) rfl
              clear NC
              replace S := S.set (b0 := y) (b1 := m) (b2 := dd) (b3 := h) (b4 := nv) (b5 := 0) (b6 := 0) (b7 := 0) 4 (.int .i64 nv) rfl
              obtain ⟨q4, _⟩ := S.cell 4 (.int .i64 nv) rfl
              go_wp2_with (first | refine load61 rfl _ rfl _ rfl 61 _ _ S.1 rfl ?_ | refine store61 rfl _ _ rfl _ _ rfl rfl rfl rfl 61 _ S.1 rfl ?_)
              exact bodyPost_ret (v := .tuple #[.agg (tCells y m dd h nv 0 0 0), .bool false]) (results_61 Tryz.results106 _ _ _ _ _ _ rfl S.fin.1 rfl) rfl ⟨S.fin.2, y, m, dd, h, nv, 0, 0, 0, by rw [T.out]; rfl, by rw [T.out]; intro x h; cases h⟩
            have l60 : decide (60 ≤ nv) = false := by simp; omega
            have l60b : nv < 60 := by omega
            have HMB : Hid (markB 60 (c :: r) = some (nv, nr)) := Lib.hid (by rw [show markB 60 (c :: r) = numB 60 r from if_pos hc]; unfold numB; rw [hN]; exact if_pos ⟨hn, by simp only; omega⟩)
            clear hl60 hN hn hc
            go_wp2_with fail
            refine (NC.out _).mono ?_
            rintro e W' ⟨hB, rs, hrs, hrz, rfl⟩
            have HROW2 : Hid (W'.heap[g3]? = some (.cells #[.pointer (some ⟨w.heap.size, 3, none⟩), .pointer (some ⟨w.heap.size, 4, none⟩), .pointer (some ⟨w.heap.size, 5, none⟩)] 46 (0, 0))) := Lib.hid (hg_below hB (lt_of_heap HROW.out) HROW.out)
            replace S := S.step hB
            obtain ⟨c4, f4⟩ := S.cell 4 (.int .i64 0) rfl
            clear NC
            replace S := S.set (b0 := y) (b1 := m) (b2 := dd) (b3 := h) (b4 := nv) (b5 := 0) (b6 := 0) (b7 := 0) 4 (.int .i64 nv) rfl
            obtain ⟨q4, _⟩ := S.cell 4 (.int .i64 nv) rfl
            go_wp2
            go_round
            case rel => exact ⟨rs, nr, rfl, hrs, hrz, Lib.hid (by rw [heap_setCell_other _ _ _ _ (by simp; omega)]; exact HROW2.out), 2, h, nv, 0, rfl, S, .inr (.inr (.inl ⟨rfl, rfl, _, HM1, HMB⟩))⟩
            case measure => simp only [intOf]; omega
          · skip
            rcases D with _ | ⟨c, r⟩
            · have he := emp_yes HD.out
              have hmb : markB 60 [] = none := rfl
              have T : Hid (parseP form l = none) := Lib.hid (by rw [PT.out]; simp only [clockP, HM1.out, HM2.out, hmb, Option.bind_some, Option.bind_none])
              go_wp2_with (first | refine load61 rfl _ rfl _ rfl 61 _ _ S.1 rfl ?_ | refine store61 rfl _ _ rfl _ _ rfl rfl rfl rfl 61 _ S.1 rfl ?_)
              exact bodyPost_ret (v := .tuple #[.agg (tCells y m dd h mi 0 0 0), .bool false]) (results_61 Tryz.results106 _ _ _ _ _ _ rfl S.fin.1 rfl) rfl ⟨S.fin.2, y, m, dd, h, mi, 0, 0, 0, by rw [T.out]; rfl, by rw [T.out]; intro x h; cases h⟩
            have he := emp_no HD.out
            obtain ⟨hp, hc0⟩ := HD.out.cons
            have hpi : (0 : Int) < (d.size : Int) := by omega
            have HB0 := Lib.hid hc0
            clear hc0
            by_cases hc : c = 58
            rotate_left
            · have f0 : ((d[0].toNat : Int) != 58) = true := neq_yes (c := d[0]) (d := 58) (by rw [HB0.out]; exact hc)
              have hmb : markB 60 (c :: r) = none := if_neg hc
              have T : Hid (parseP form l = none) := Lib.hid (by rw [PT.out]; simp only [clockP, HM1.out, HM2.out, hmb, Option.bind_some, Option.bind_none])
              clear hc hmb
              go_wp2_with (first | refine load61 rfl _ rfl _ rfl 61 _ _ S.1 rfl ?_ | refine store61 rfl _ _ rfl _ _ rfl rfl rfl rfl 61 _ S.1 rfl ?_)
              exact bodyPost_ret (v := .tuple #[.agg (tCells y m dd h mi 0 0 0), .bool false]) (results_61 Tryz.results106 _ _ _ _ _ _ rfl S.fin.1 rfl) rfl ⟨S.fin.2, y, m, dd, h, mi, 0, 0, 0, by rw [T.out]; rfl, by rw [T.out]; intro x h; cases h⟩
            have f0 : ((d[0].toNat : Int) != 58) = false := neq_no (c := d[0]) (d := 58) (by rw [HB0.out]; exact hc)
            have hdr := Lib.hid (HD.out.drop 1)
            have hz : (d.extract 1 d.size).size ≤ 1000 := by rw [ByteArray.size_extract]; omega
            have hp1i : (1 : Int) ≤ (d.size : Int) := by omega
            generalize hN : num2 r = N
            obtain ⟨nv, nn, nr⟩ := N
            have hnb := num2_of hN
            by_cases hn : nn = 0
            · have NC := num_at (b := false) hdr.out hz hN (by rw [hn]; rfl)
              have hmb : markB 60 (c :: r) = none := by rw [show markB 60 (c :: r) = numB 60 r from if_pos hc]; unfold numB; rw [hN]; exact if_neg (fun h => h.1 hn)
              have T : Hid (parseP form l = none) := Lib.hid (by rw [PT.out]; simp only [clockP, HM1.out, HM2.out, hmb, Option.bind_some, Option.bind_none])
              clear hmb hN hn hc
              go_wp2_with fail
              refine (NC.out _).mono ?_
              rintro e W' ⟨hB, rs, hrs, hrz, rfl⟩
              replace S := S.step hB
              obtain ⟨c5, f5⟩ := S.cell 5 (.int .i64 0) rfl
              clear NC
              replace S := S.set (b0 := y) (b1 := m) (b2 := dd) (b3 := h) (b4 := mi) (b5 := nv) (b6 := 0) (b7 := 0) 5 (.int .i64 nv) rfl
              go_wp2_with (first | refine load61 rfl _ rfl _ rfl 61 _ _ S.1 rfl ?_ | refine store61 rfl _ _ rfl _ _ rfl rfl rfl rfl 61 _ S.1 rfl ?_)
              exact bodyPost_ret (v := .tuple #[.agg (tCells y m dd h mi nv 0 0), .bool false]) (results_61 Tryz.results106 _ _ _ _ _ _ rfl S.fin.1 rfl) rfl ⟨S.fin.2, y, m, dd, h, mi, nv, 0, 0, by rw [T.out]; rfl, by rw [T.out]; intro x h; cases h⟩
            have NC := num_at (b := true) hdr.out hz hN (by simpa using hn)
            by_cases hl60 : 60 ≤ nv
            · have hmb : markB 60 (c :: r) = none := by rw [show markB 60 (c :: r) = numB 60 r from if_pos hc]; unfold numB; rw [hN]; exact if_neg (fun h => by have h2 := h.2; simp only at h2; omega)
              have T : Hid (parseP form l = none) := Lib.hid (by rw [PT.out]; simp only [clockP, HM1.out, HM2.out, hmb, Option.bind_some, Option.bind_none])
              clear hmb hN hn hc
              go_wp2_with fail
              refine (NC.out _).mono ?_
              rintro e W' ⟨hB, rs, hrs, hrz, rfl⟩
              have HROW2 : Hid (W'.heap[g3]? = some (.cells #[.pointer (some ⟨w.heap.size, 3, none⟩), .pointer (some ⟨w.heap.size, 4, none⟩), .pointer (some ⟨w.heap.size, 5, none⟩)] 46 (0, 0))) := Lib.hid (hg_below hB (lt_of_heap HROW.out) HROW.out)
              replace S := S.step hB
              obtain ⟨c5, f5⟩ := S.cell 5 (.int .i64 0) rfl
              clear NC
              replace S := S.set (b0 := y) (b1 := m) (b2 := dd) (b3 := h) (b4 := mi) (b5 := nv) (b6 := 0) (b7 := 0) 5 (.int .i64 nv) rfl
              obtain ⟨q5, _⟩ := S.cell 5 (.int .i64 nv) rfl
              go_wp2_with (first | refine load61 rfl _ rfl _ rfl 61 _ _ S.1 rfl ?_ | refine store61 rfl _ _ rfl _ _ rfl rfl rfl rfl 61 _ S.1 rfl ?_)
              exact bodyPost_ret (v := .tuple #[.agg (tCells y m dd h mi nv 0 0), .bool false]) (results_61 Tryz.results106 _ _ _ _ _ _ rfl S.fin.1 rfl) rfl ⟨S.fin.2, y, m, dd, h, mi, nv, 0, 0, by rw [T.out]; rfl, by rw [T.out]; intro x h; cases h⟩
            have l60 : decide (60 ≤ nv) = false := by simp; omega
            have l60b : nv < 60 := by omega
            have HMB : Hid (markB 60 (c :: r) = some (nv, nr)) := Lib.hid (by rw [show markB 60 (c :: r) = numB 60 r from if_pos hc]; unfold numB; rw [hN]; exact if_pos ⟨hn, by simp only; omega⟩)
            clear hl60 hN hn hc
            go_wp2_with fail
            refine (NC.out _).mono ?_
            rintro e W' ⟨hB, rs, hrs, hrz, rfl⟩
            have HROW2 : Hid (W'.heap[g3]? = some (.cells #[.pointer (some ⟨w.heap.size, 3, none⟩), .pointer (some ⟨w.heap.size, 4, none⟩), .pointer (some ⟨w.heap.size, 5, none⟩)] 46 (0, 0))) := Lib.hid (hg_below hB (lt_of_heap HROW.out) HROW.out)
            replace S := S.step hB
            obtain ⟨c5, f5⟩ := S.cell 5 (.int .i64 0) rfl
            clear NC
            replace S := S.set (b0 := y) (b1 := m) (b2 := dd) (b3 := h) (b4 := mi) (b5 := nv) (b6 := 0) (b7 := 0) 5 (.int .i64 nv) rfl
            obtain ⟨q5, _⟩ := S.cell 5 (.int .i64 nv) rfl
            go_wp2
            go_round
            case rel => exact ⟨rs, nr, rfl, hrs, hrz, Lib.hid (by rw [heap_setCell_other _ _ _ _ (by simp; omega)]; exact HROW2.out), 3, h, mi, nv, rfl, S, .inr (.inr (.inr ⟨rfl, _, _, HM1, HM2, HMB⟩))⟩
            case measure => simp only [intOf]; omega
          · skip
            have PE : Hid (parseP form l = endP form y m dd h mi se (clkNano D)) := Lib.hid (by rw [PT.out]; simp only [clockP, HM1.out, HM2.out, HM3.out, Option.bind_some])
            clear PT HM1 HM2 HM3 hp0 hp1 hp2 HROW
            go_upto_region 42 with fail
            go_cut [218] from 202 to 217 (fun v wc => v = .bool (nanoB D) ∧ TS w wc y m dd h mi se 0 0)
            case first =>
              rcases D with _ | ⟨a, _ | ⟨b, r⟩⟩
              · have hz : d.size = 0 := by rw [HD.out.size]; rfl
                have g1 : decide ((2 : Int) ≤ (d.size : Int)) = false := by rw [hz]; rfl
                have g2 : (d.size : Int) < 2 := by rw [hz]; decide
                clear hz
                go_wp2
                go_meet
                case rel => exact ⟨rfl, S⟩
              · have hz : d.size = 1 := by rw [HD.out.size]; rfl
                have g1 : decide ((2 : Int) ≤ (d.size : Int)) = false := by rw [hz]; rfl
                have g2 : (d.size : Int) < 2 := by rw [hz]; decide
                clear hz
                go_wp2
                go_meet
                case rel => exact ⟨rfl, S⟩
              have hz : 2 ≤ d.size := by rw [HD.out.size]; simp
              have g1 : (2 : Int) ≤ (d.size : Int) := by omega
              have g2 : (0 : Int) < (d.size : Int) := by omega
              obtain ⟨hp, hc0⟩ := HD.out.cons
              have HB0 := Lib.hid hc0
              have DG := dig_at HD.out hds (show digAt (a :: b :: r) 1 = isDig b from rfl) 1 rfl
              clear hc0 hz
              by_cases h46 : a = 46
              · have k1 : ((d[0].toNat : Int) == 46) = true := byte_eq (c := d[0]) (d := 46) (by rw [HB0.out]; exact h46)
                have HNB : Hid (isDig b = nanoB (a :: b :: r)) := Lib.hid (by simp [nanoB, h46])
                clear h46
                go_wp2_with fail
                refine (DG.out _).mono ?_
                rintro e w' ⟨rfl, rfl⟩
                go_wp2
                go_meet
                case rel => exact ⟨by rw [HNB.out], S⟩
              have k1 : ((d[0].toNat : Int) == 46) = false := byte_ne (c := d[0]) (d := 46) (by rw [HB0.out]; exact h46)
              by_cases h44 : a = 44
              · have k2 : ((d[0].toNat : Int) == 44) = true := byte_eq (c := d[0]) (d := 44) (by rw [HB0.out]; exact h44)
                have HNB : Hid (isDig b = nanoB (a :: b :: r)) := Lib.hid (by simp [nanoB, h44])
                clear h46 h44
                go_wp2_with fail
                refine (DG.out _).mono ?_
                rintro e w' ⟨rfl, rfl⟩
                go_wp2
                go_meet
                case rel => exact ⟨by rw [HNB.out], S⟩
              have k2 : ((d[0].toNat : Int) == 44) = false := byte_ne (c := d[0]) (d := 44) (by rw [HB0.out]; exact h44)
              have HNB : Hid (nanoB (a :: b :: r) = false) := Lib.hid (by simp [nanoB, h44, h46])
              clear h46 h44
              go_wp2
              go_meet
              case rel => exact ⟨by rw [HNB.out], S⟩
            case rest =>
            clear S
            obtain ⟨rfl, S⟩ := hcut
            go_upto_if 218 with fail
            go_cut [0, 14, 15] from 218 to 239 (fun sv _ _ wc => ∃ (E : ByteArray) (EL : Bs) (na : Int), sv = .string E ∧ Hid (StrIs E EL) ∧ E.size ≤ 1000 ∧ TS w wc y m dd h mi se na 0 ∧ Hid (parseP form l = endP form y m dd h mi se (na, EL)))
            case first =>
              cases hb : nanoB D
              · have PF : Hid (parseP form l = endP form y m dd h mi se (0, D)) := Lib.hid (by rw [PE.out, clkNano_no hb])
                clear hb
                go_wp2
                go_meet
                case rel => exact ⟨d, D, 0, rfl, HD, hds, S, PF⟩
              rcases D with _ | ⟨a, _ | ⟨b, r⟩⟩
              · cases hb
              · cases hb
              have PF : Hid (parseP form l = endP form y m dd h mi se ((nanoGo 1 0 (b :: r)).1 * 10 ^ (10 - (nanoGo 1 0 (b :: r)).2.1), (nanoGo 1 0 (b :: r)).2.2)) := Lib.hid (by rw [PE.out, clkNano_yes hb])
              have hz : 2 ≤ d.size := by rw [HD.out.size]; simp
              have hz1 : 1 ≤ d.size := by omega
              clear hb PE hz
              go_upto_region 45 with fail
              go_loopw [14, 15] (fun iv sv wc => ∃ (k : Nat) (n V sc : Int), iv = .int .i64 k ∧ sv = .int .i64 sc ∧ 1 ≤ k ∧ k ≤ d.size ∧ TS w wc y m dd h mi se V 0 ∧ Hid (NI k n V sc) ∧ Hid (nanoGo 1 0 (b :: r) = nanoGo k n ((a :: b :: r).drop k))) (fun iv _ _ => d.size - (intOf iv).toNat)
              case atStart => exact ⟨1, 0, 0, 100000000, rfl, rfl, by omega, hz1, S, Lib.hid NI.start, Lib.hid rfl⟩
              case round =>
                clear S hz1
                obtain ⟨k, n, V, sc, rfl, rfl, hk1, hks, S, HN, HG⟩ := hrel
                cases hdk : digAt (a :: b :: r) k
                · have DG := dig_at HD.out hds hdk k rfl
                  have HS : Hid (nanoGo 1 0 (b :: r) = (n, k, (a :: b :: r).drop k)) := Lib.hid (by rw [HG.out, nanoGo_stop (by unfold digAt at hdk ⊢; rw [List.getElem?_drop]; exact hdk)])
                  have PG : Hid (parseP form l = endP form y m dd h mi se (V, (a :: b :: r).drop k)) := Lib.hid (by rw [PF.out, HS.out, HN.out.1])
                  have hdr := Lib.hid (HD.out.drop k)
                  have hz2 : (d.extract k d.size).size ≤ 1000 := by rw [ByteArray.size_extract]; omega
                  have hk0 : (0 : Int) ≤ (k : Int) := by omega
                  have hks2 : (k : Int) ≤ (d.size : Int) := by omega
                  clear hdk
                  go_wp2_with fail
                  refine (DG.out _).mono ?_
                  rintro e w' ⟨rfl, rfl⟩
                  go_wp2
                  go_meet
                  case rel => exact ⟨_, _, V, rfl, hdr, hz2, S, PG⟩
                have DG := dig_at HD.out hds hdk k rfl
                have hlt : k < d.size := by
                  unfold digAt at hdk
                  rcases Nat.lt_or_ge k (a :: b :: r).length with h1 | h1
                  · rw [HD.out.size]; exact h1
                  · rw [List.getElem?_eq_none h1] at hdk; cases hdk
                have hdg : isDig d[k] = true := by unfold digAt at hdk; rw [HD.out.get k hlt] at hdk; exact hdk
                have HN2 := Lib.hid (NI.step hk1 HN.out hdg)
                have HG2 : Hid (nanoGo 1 0 (b :: r) = nanoGo (k + 1) (if k < 10 then 10 * n + dig d[k] else n) ((a :: b :: r).drop (k + 1))) := Lib.hid (by
                  rw [HG.out]
                  have h3 := drop_cons d k hlt
                  rw [show d.data.toList = a :: b :: r from HD.out] at h3
                  rw [h3, nanoGo, if_pos hdg])
                have hdb := dig_bd hdg
                have hcd : 48 ≤ d[k].toNat ∧ d[k].toNat ≤ 57 := by simpa [isDig] using hdg
                have g1 : (48 : Int) ≤ (d[k].toNat : Int) := by omega
                have g2 : (d[k].toNat : Int) ≤ 57 := by omega
                have hsc0 := HN.out.2.2.2.2.2.1
                have hsc1 := HN.out.2.2.2.2.2.2
                have hV0 := HN.out.2.2.2.1
                have hV1 := HN.out.2.2.2.2.1
                have hks2 : (k : Int) < (d.size : Int) := by omega
                have hk0 : (0 : Int) ≤ (k : Int) := by omega
                have hP0 : 0 ≤ ((d[k].toNat : Int) - 48) * sc := Int.mul_nonneg (by omega) hsc0
                have hP1 : ((d[k].toNat : Int) - 48) * sc ≤ 900000000 := Int.le_trans (Int.mul_le_mul_of_nonneg_right (show (d[k].toNat : Int) - 48 ≤ 9 by omega) hsc0) (by omega)
                obtain ⟨c6, f6⟩ := S.cell 6 (.int .i64 V) rfl
                clear hdk hdg hcd hdb
                go_wp2_with fail
                refine (DG.out _).mono ?_
                rintro e w' ⟨rfl, rfl⟩
                clear DG
                go_wp2
                go_region
                go_wp2
                go_round
                case rel => exact ⟨k + 1, _, _, _, by simp, rfl, by omega, by omega, (S.set 6 _ rfl).drew, HN2, HG2⟩
                case measure => simp only [intOf]; omega
            case rest =>
            clear S HD hds PE
            obtain ⟨E, EL, na, rfl, HD, hds, S, PE⟩ := hcut
            by_cases h32 : form = 32
            · have k0 : ((form.toNat : Int) == 32) = true := byte_eq (c := form) (d := 32) h32
              rcases EL with _ | ⟨c, r⟩
              · have he := emp_yes HD.out
                have T : Hid (parseP form l = some [y, m, dd, h, mi, se, na, 0]) := Lib.hid (by rw [PE.out]; simp [endP, h32])
                clear h32
                go_wp2_with (first | refine load61 rfl _ rfl _ rfl 61 _ _ S.1 rfl ?_ | refine store61 rfl _ _ rfl _ _ rfl rfl rfl rfl 61 _ S.1 rfl ?_)
                exact bodyPost_ret (v := .tuple #[.agg (tCells y m dd h mi se na 0), .bool true]) (results_61 Tryz.results106 _ _ _ _ _ _ rfl S.fin.1 rfl) rfl ⟨S.fin.2, y, m, dd, h, mi, se, na, 0, by rw [T.out]; rfl, by rw [T.out]; intro x h; exact (Option.some.inj h).symm⟩
              · have he := emp_no HD.out
                have T : Hid (parseP form l = none) := Lib.hid (by rw [PE.out]; simp [endP, h32])
                clear h32
                go_wp2_with (first | refine load61 rfl _ rfl _ rfl 61 _ _ S.1 rfl ?_ | refine store61 rfl _ _ rfl _ _ rfl rfl rfl rfl 61 _ S.1 rfl ?_)
                exact bodyPost_ret (v := .tuple #[.agg (tCells y m dd h mi se na 0), .bool false]) (results_61 Tryz.results106 _ _ _ _ _ _ rfl S.fin.1 rfl) rfl ⟨S.fin.2, y, m, dd, h, mi, se, na, 0, by rw [T.out]; rfl, by rw [T.out]; intro x h; cases h⟩
            have k0 : ((form.toNat : Int) == 32) = false := byte_ne (c := form) (d := 32) h32
            have PZ : Hid (parseP form l = (zoneOf EL).map fun z => [y, m, dd, h, mi, se, na, z]) := Lib.hid (by rw [PE.out]; simp only [endP, if_neg h32])
            clear h32 PE
            by_cases hZ : EL = [90]
            · have k1 : (E.toList == [90]) = true := by rw [Lib.toList_data, HD.out, hZ]; rfl
              have T : Hid (parseP form l = some [y, m, dd, h, mi, se, na, 0]) := Lib.hid (by rw [PZ.out, hZ]; rfl)
              clear hZ
              go_wp2_with (first | refine load61 rfl _ rfl _ rfl 61 _ _ S.1 rfl ?_ | refine store61 rfl _ _ rfl _ _ rfl rfl rfl rfl 61 _ S.1 rfl ?_)
              exact bodyPost_ret (v := .tuple #[.agg (tCells y m dd h mi se na 0), .bool true]) (results_61 Tryz.results106 _ _ _ _ _ _ rfl S.fin.1 rfl) rfl ⟨S.fin.2, y, m, dd, h, mi, se, na, 0, by rw [T.out]; rfl, by rw [T.out]; intro x h; exact (Option.some.inj h).symm⟩
            have k1 : (E.toList == [90]) = false := by rw [Lib.toList_data, HD.out]; simpa using hZ
            by_cases h6 : EL.length = 6
            rotate_left
            · have k2 : ((E.size : Int) != 6) = true := by have := HD.out.size; simp; omega
              have T : Hid (parseP form l = none) := Lib.hid (by rw [PZ.out, zone_len hZ h6]; rfl)
              clear hZ h6
              go_wp2_with (first | refine load61 rfl _ rfl _ rfl 61 _ _ S.1 rfl ?_ | refine store61 rfl _ _ rfl _ _ rfl rfl rfl rfl 61 _ S.1 rfl ?_)
              exact bodyPost_ret (v := .tuple #[.agg (tCells y m dd h mi se na 0), .bool false]) (results_61 Tryz.results106 _ _ _ _ _ _ rfl S.fin.1 rfl) rfl ⟨S.fin.2, y, m, dd, h, mi, se, na, 0, by rw [T.out]; rfl, by rw [T.out]; intro x h; cases h⟩
            have hz6 : E.size = 6 := by rw [HD.out.size]; exact h6
            obtain ⟨q, a, b, c, dg, eg, hEL⟩ : ∃ q a b c dg eg, EL = [q, a, b, c, dg, eg] := by
              match EL, h6 with
              | [q, a, b, c, d, e], _ => exact ⟨q, a, b, c, d, e, rfl⟩
            clear hZ h6
            subst hEL
            have Z6 := Lib.hid (zone6 q a b c dg eg)
            have D1 := dig_at HD.out hds (show digAt [q, a, b, c, dg, eg] 1 = isDig a from rfl) 1 rfl
            have D2 := dig_at HD.out hds (show digAt [q, a, b, c, dg, eg] 2 = isDig b from rfl) 2 rfl
            have D4 := dig_at HD.out hds (show digAt [q, a, b, c, dg, eg] 4 = isDig dg from rfl) 4 rfl
            have D5 := dig_at HD.out hds (show digAt [q, a, b, c, dg, eg] 5 = isDig eg from rfl) 5 rfl
            have k2 : ((E.size : Int) != 6) = false := by rw [hz6]; rfl
            have j0 : (0 : Int) < (E.size : Int) := by rw [hz6]; decide
            have j0n : 0 < E.size := by rw [hz6]; decide
            have j3n : 3 < E.size := by rw [hz6]; decide
            have j3 : (3 : Int) < (E.size : Int) := by rw [hz6]; decide
            have j3b : (3 : Int) ≤ (E.size : Int) := by rw [hz6]; decide
            have j1b : (1 : Int) ≤ (E.size : Int) := by rw [hz6]; decide
            have j4b : (4 : Int) ≤ (E.size : Int) := by rw [hz6]; decide
            have j6b : (6 : Int) ≤ (E.size : Int) := by rw [hz6]; decide
            have HE0 : Hid (E[0]'j0n = q) := Lib.hid (by have := HD.out.get 0 j0n; simpa using this.symm)
            have HE3 : Hid (E[3]'j3n = c) := Lib.hid (by have := HD.out.get 3 j3n; simpa using this.symm)
            have HZI := Lib.hid hz6
            clear hz6
            go_upto_region 54 with fail
            go_cut [285] from 248 to 284 (fun v wc => ∃ bb : Bool, v = .bool bb ∧ Hid (bb = !decide ((q = 43 ∨ q = 45) ∧ c = 58 ∧ isDig a = true ∧ isDig b = true ∧ isDig dg = true ∧ isDig eg = true)) ∧ TS w wc y m dd h mi se na 0)
            case first =>
              by_cases h43 : q = 43
              · skip
                have n0 : ((E[0].toNat : Int) != 43) = false := neq_no (c := E[0]) (d := 43) (by rw [HE0.out]; exact h43)
                have HQ : Hid (q = 43 ∨ q = 45) := Lib.hid (.inl h43)
                clear h43
                by_cases hc : c = 58
                rotate_left
                · skip
                  have n3 : ((E[3].toNat : Int) != 58) = true := neq_yes (c := E[3]) (d := 58) (by rw [HE3.out]; exact hc)
                  have HV : Hid (decide ((q = 43 ∨ q = 45) ∧ c = 58 ∧ isDig a = true ∧ isDig b = true ∧ isDig dg = true ∧ isDig eg = true) = false) := Lib.hid (by simp [hc])
                  clear hc
                  go_wp2
                  go_meet
                  case rel => exact ⟨_, rfl, Lib.hid (by rw [HV.out]; rfl), S⟩
                have n3 : ((E[3].toNat : Int) != 58) = false := neq_no (c := E[3]) (d := 58) (by rw [HE3.out]; exact hc)
                cases ha : isDig a
                · rw [ha] at D1
                  have HV : Hid (decide ((q = 43 ∨ q = 45) ∧ c = 58 ∧ isDig a = true ∧ isDig b = true ∧ isDig dg = true ∧ isDig eg = true) = false) := Lib.hid (by simp [ha])
                  clear hc ha
                  go_wp2_with fail
                  refine (D1.out _).mono ?_
                  rintro e w' ⟨rfl, rfl⟩
                  go_wp2
                  go_meet
                  case rel => exact ⟨_, rfl, Lib.hid (by rw [HV.out]; rfl), S⟩
                rw [ha] at D1
                cases hb : isDig b
                · rw [hb] at D2
                  have HV : Hid (decide ((q = 43 ∨ q = 45) ∧ c = 58 ∧ isDig a = true ∧ isDig b = true ∧ isDig dg = true ∧ isDig eg = true) = false) := Lib.hid (by simp [hb])
                  clear hc ha hb
                  go_wp2_with fail
                  refine (D1.out _).mono ?_
                  rintro e w' ⟨rfl, rfl⟩
                  go_wp2_with fail
                  refine (D2.out _).mono ?_
                  rintro e w' ⟨rfl, rfl⟩
                  go_wp2
                  go_meet
                  case rel => exact ⟨_, rfl, Lib.hid (by rw [HV.out]; rfl), S⟩
                rw [hb] at D2
                cases hdg : isDig dg
                · rw [hdg] at D4
                  have HV : Hid (decide ((q = 43 ∨ q = 45) ∧ c = 58 ∧ isDig a = true ∧ isDig b = true ∧ isDig dg = true ∧ isDig eg = true) = false) := Lib.hid (by simp [hdg])
                  clear hc ha hb hdg
                  go_wp2_with fail
                  refine (D1.out _).mono ?_
                  rintro e w' ⟨rfl, rfl⟩
                  go_wp2_with fail
                  refine (D2.out _).mono ?_
                  rintro e w' ⟨rfl, rfl⟩
                  go_wp2_with fail
                  refine (D4.out _).mono ?_
                  rintro e w' ⟨rfl, rfl⟩
                  go_wp2
                  go_meet
                  case rel => exact ⟨_, rfl, Lib.hid (by rw [HV.out]; rfl), S⟩
                rw [hdg] at D4
                cases heg : isDig eg
                · rw [heg] at D5
                  have HV : Hid (decide ((q = 43 ∨ q = 45) ∧ c = 58 ∧ isDig a = true ∧ isDig b = true ∧ isDig dg = true ∧ isDig eg = true) = false) := Lib.hid (by simp [heg])
                  clear hc ha hb hdg heg
                  go_wp2_with fail
                  refine (D1.out _).mono ?_
                  rintro e w' ⟨rfl, rfl⟩
                  go_wp2_with fail
                  refine (D2.out _).mono ?_
                  rintro e w' ⟨rfl, rfl⟩
                  go_wp2_with fail
                  refine (D4.out _).mono ?_
                  rintro e w' ⟨rfl, rfl⟩
                  go_wp2_with fail
                  refine (D5.out _).mono ?_
                  rintro e w' ⟨rfl, rfl⟩
                  go_wp2
                  go_meet
                  case rel => exact ⟨_, rfl, Lib.hid (by rw [HV.out]; rfl), S⟩
                rw [heg] at D5
                have HV : Hid (decide ((q = 43 ∨ q = 45) ∧ c = 58 ∧ isDig a = true ∧ isDig b = true ∧ isDig dg = true ∧ isDig eg = true) = true) := Lib.hid (by simp [HQ.out, hc, ha, hb, hdg, heg])
                clear hc ha hb hdg heg
                go_wp2_with fail
                refine (D1.out _).mono ?_
                rintro e w' ⟨rfl, rfl⟩
                go_wp2_with fail
                refine (D2.out _).mono ?_
                rintro e w' ⟨rfl, rfl⟩
                go_wp2_with fail
                refine (D4.out _).mono ?_
                rintro e w' ⟨rfl, rfl⟩
                go_wp2_with fail
                refine (D5.out _).mono ?_
                rintro e w' ⟨rfl, rfl⟩
                go_wp2
                go_meet
                case rel => exact ⟨_, rfl, Lib.hid (by rw [HV.out]; rfl), S⟩
              have n0 : ((E[0].toNat : Int) != 43) = true := neq_yes (c := E[0]) (d := 43) (by rw [HE0.out]; exact h43)
              by_cases h45 : q = 45
              · skip
                have n1 : ((E[0].toNat : Int) != 45) = false := neq_no (c := E[0]) (d := 45) (by rw [HE0.out]; exact h45)
                have HQ : Hid (q = 43 ∨ q = 45) := Lib.hid (.inr h45)
                clear h43 h45
                by_cases hc : c = 58
                rotate_left
                · skip
                  have n3 : ((E[3].toNat : Int) != 58) = true := neq_yes (c := E[3]) (d := 58) (by rw [HE3.out]; exact hc)
                  have HV : Hid (decide ((q = 43 ∨ q = 45) ∧ c = 58 ∧ isDig a = true ∧ isDig b = true ∧ isDig dg = true ∧ isDig eg = true) = false) := Lib.hid (by simp [hc])
                  clear hc
                  go_wp2
                  go_meet
                  case rel => exact ⟨_, rfl, Lib.hid (by rw [HV.out]; rfl), S⟩
                have n3 : ((E[3].toNat : Int) != 58) = false := neq_no (c := E[3]) (d := 58) (by rw [HE3.out]; exact hc)
                cases ha : isDig a
                · rw [ha] at D1
                  have HV : Hid (decide ((q = 43 ∨ q = 45) ∧ c = 58 ∧ isDig a = true ∧ isDig b = true ∧ isDig dg = true ∧ isDig eg = true) = false) := Lib.hid (by simp [ha])
                  clear hc ha
                  go_wp2_with fail
                  refine (D1.out _).mono ?_
                  rintro e w' ⟨rfl, rfl⟩
                  go_wp2
                  go_meet
                  case rel => exact ⟨_, rfl, Lib.hid (by rw [HV.out]; rfl), S⟩
                rw [ha] at D1
                cases hb : isDig b
                · rw [hb] at D2
                  have HV : Hid (decide ((q = 43 ∨ q = 45) ∧ c = 58 ∧ isDig a = true ∧ isDig b = true ∧ isDig dg = true ∧ isDig eg = true) = false) := Lib.hid (by simp [hb])
                  clear hc ha hb
                  go_wp2_with fail
                  refine (D1.out _).mono ?_
                  rintro e w' ⟨rfl, rfl⟩
                  go_wp2_with fail
                  refine (D2.out _).mono ?_
                  rintro e w' ⟨rfl, rfl⟩
                  go_wp2
                  go_meet
                  case rel => exact ⟨_, rfl, Lib.hid (by rw [HV.out]; rfl), S⟩
                rw [hb] at D2
                cases hdg : isDig dg
                · rw [hdg] at D4
                  have HV : Hid (decide ((q = 43 ∨ q = 45) ∧ c = 58 ∧ isDig a = true ∧ isDig b = true ∧ isDig dg = true ∧ isDig eg = true) = false) := Lib.hid (by simp [hdg])
                  clear hc ha hb hdg
                  go_wp2_with fail
                  refine (D1.out _).mono ?_
                  rintro e w' ⟨rfl, rfl⟩
                  go_wp2_with fail
                  refine (D2.out _).mono ?_
                  rintro e w' ⟨rfl, rfl⟩
                  go_wp2_with fail
                  refine (D4.out _).mono ?_
                  rintro e w' ⟨rfl, rfl⟩
                  go_wp2
                  go_meet
                  case rel => exact ⟨_, rfl, Lib.hid (by rw [HV.out]; rfl), S⟩
                rw [hdg] at D4
                cases heg : isDig eg
                · rw [heg] at D5
                  have HV : Hid (decide ((q = 43 ∨ q = 45) ∧ c = 58 ∧ isDig a = true ∧ isDig b = true ∧ isDig dg = true ∧ isDig eg = true) = false) := Lib.hid (by simp [heg])
                  clear hc ha hb hdg heg
                  go_wp2_with fail
                  refine (D1.out _).mono ?_
                  rintro e w' ⟨rfl, rfl⟩
                  go_wp2_with fail
                  refine (D2.out _).mono ?_
                  rintro e w' ⟨rfl, rfl⟩
                  go_wp2_with fail
                  refine (D4.out _).mono ?_
                  rintro e w' ⟨rfl, rfl⟩
                  go_wp2_with fail
                  refine (D5.out _).mono ?_
                  rintro e w' ⟨rfl, rfl⟩
                  go_wp2
                  go_meet
                  case rel => exact ⟨_, rfl, Lib.hid (by rw [HV.out]; rfl), S⟩
                rw [heg] at D5
                have HV : Hid (decide ((q = 43 ∨ q = 45) ∧ c = 58 ∧ isDig a = true ∧ isDig b = true ∧ isDig dg = true ∧ isDig eg = true) = true) := Lib.hid (by simp [HQ.out, hc, ha, hb, hdg, heg])
                clear hc ha hb hdg heg
                go_wp2_with fail
                refine (D1.out _).mono ?_
                rintro e w' ⟨rfl, rfl⟩
                go_wp2_with fail
                refine (D2.out _).mono ?_
                rintro e w' ⟨rfl, rfl⟩
                go_wp2_with fail
                refine (D4.out _).mono ?_
                rintro e w' ⟨rfl, rfl⟩
                go_wp2_with fail
                refine (D5.out _).mono ?_
                rintro e w' ⟨rfl, rfl⟩
                go_wp2
                go_meet
                case rel => exact ⟨_, rfl, Lib.hid (by rw [HV.out]; rfl), S⟩
              have n1 : ((E[0].toNat : Int) != 45) = true := neq_yes (c := E[0]) (d := 45) (by rw [HE0.out]; exact h45)
              have HV : Hid (decide ((q = 43 ∨ q = 45) ∧ c = 58 ∧ isDig a = true ∧ isDig b = true ∧ isDig dg = true ∧ isDig eg = true) = false) := Lib.hid (by simp [h43, h45])
              clear h43 h45
              go_wp2
              go_meet
              case rel => exact ⟨_, rfl, Lib.hid (by rw [HV.out]; rfl), S⟩
            case rest =>
            clear S D1 D2 D4 D5
            obtain ⟨bb, rfl, HBB, S⟩ := hcut
            rcases bb with _ | _
            rotate_left
            · have hC : ¬ ((q = 43 ∨ q = 45) ∧ c = 58 ∧ isDig a = true ∧ isDig b = true ∧ isDig dg = true ∧ isDig eg = true) := nd_false HBB.out
              have T : Hid (parseP form l = none) := Lib.hid (by rw [PZ.out, Z6.out, if_neg hC]; rfl)
              clear hC HBB
              go_wp2_with (first | refine load61 rfl _ rfl _ rfl 61 _ _ S.1 rfl ?_ | refine store61 rfl _ _ rfl _ _ rfl rfl rfl rfl 61 _ S.1 rfl ?_)
              exact bodyPost_ret (v := .tuple #[.agg (tCells y m dd h mi se na 0), .bool false]) (results_61 Tryz.results106 _ _ _ _ _ _ rfl S.fin.1 rfl) rfl ⟨S.fin.2, y, m, dd, h, mi, se, na, 0, by rw [T.out]; rfl, by rw [T.out]; intro x h; cases h⟩
            have hC : ((q = 43 ∨ q = 45) ∧ c = 58 ∧ isDig a = true ∧ isDig b = true ∧ isDig dg = true ∧ isDig eg = true) := nd_true HBB.out
            obtain ⟨ha, hb, hdg, heg⟩ := hC.2.2
            have hab := num2_dig ha hb
            have hde := num2_dig hdg heg
            have PZ2 : Hid (parseP form l = (if 10 * dig a + dig b ≤ 24 ∧ 10 * dig dg + dig eg ≤ 60 then some (if q = 45 then -((10 * dig a + dig b) * 3600 + (10 * dig dg + dig eg) * 60) else (10 * dig a + dig b) * 3600 + (10 * dig dg + dig eg) * 60) else none).map fun z => [y, m, dd, h, mi, se, na, z]) := Lib.hid (by rw [PZ.out, Z6.out, if_pos hC])
            have hb1 := num2_of hab
            have hb2 := num2_of hde
            have hx1 : StrIs (E.extract 1 3) [a, b] := by unfold StrIs; rw [Lib.extract_data, HD.out]; rfl
            have hx2 : StrIs (E.extract 4 6) [dg, eg] := by unfold StrIs; rw [Lib.extract_data, HD.out]; rfl
            have hx1z : (E.extract 1 3).size ≤ 1000 := by rw [hx1.size]; simp
            have hx2z : (E.extract 4 6).size ≤ 1000 := by rw [hx2.size]; simp
            generalize 10 * dig a + dig b = H at *
            generalize 10 * dig dg + dig eg = M at *
            have N1 := num_at (b := true) hx1 hx1z hab rfl
            have N2 := num_at (b := true) hx2 hx2z hde rfl
            clear hC HBB ha hb hdg heg hab hde hx1 hx2 hx1z hx2z PZ Z6
            go_wp2_with fail
            refine (N1.out _).mono ?_
            rintro e W1 ⟨hB1, r1, _, _, rfl⟩
            replace S := S.step hB1
            go_wp2_with fail
            refine (N2.out _).mono ?_
            rintro e W2 ⟨hB2, r2, _, _, rfl⟩
            replace S := S.step hB2
            clear N1 N2 hB1 hB2
            obtain ⟨c7, f7⟩ := S.cell 7 (.int .i64 0) rfl
            have S1 := S.set (b0 := y) (b1 := m) (b2 := dd) (b3 := h) (b4 := mi) (b5 := se) (b6 := na) (b7 := (H * 60 + M) * 60) 7 (.int .i64 ((H * 60 + M) * 60)) rfl
            by_cases hq : q = 45
            · skip
              have k9 : ((E[0].toNat : Int) == 45) = true := byte_eq (c := E[0]) (d := 45) (by rw [HE0.out]; exact hq)
              obtain ⟨q7, g7⟩ := S1.cell 7 (.int .i64 ((H * 60 + M) * 60)) rfl
              have S2 := S1.set (b0 := y) (b1 := m) (b2 := dd) (b3 := h) (b4 := mi) (b5 := se) (b6 := na) (b7 := -((H * 60 + M) * 60)) 7 (.int .i64 (-((H * 60 + M) * 60))) rfl
              have PZ3 : Hid (parseP form l = (if H ≤ 24 ∧ M ≤ 60 then some (-(H * 3600 + M * 60)) else none).map fun z => [y, m, dd, h, mi, se, na, z]) := Lib.hid (by rw [PZ2.out, if_pos hq])
              clear hq PZ2
              by_cases hH : H ≤ 24
              · by_cases hM : M ≤ 60
                · have T : Hid (parseP form l = some [y, m, dd, h, mi, se, na, -((H * 60 + M) * 60)]) := Lib.hid (by rw [PZ3.out, if_pos ⟨hH, hM⟩, show -(H * 3600 + M * 60) = -((H * 60 + M) * 60) by omega]; rfl)
                  go_wp2_with (first | refine load61 rfl _ rfl _ rfl 61 _ _ S2.1 rfl ?_ | refine store61 rfl _ _ rfl _ _ rfl rfl rfl rfl 61 _ S2.1 rfl ?_)
                  exact bodyPost_ret (v := .tuple #[.agg (tCells y m dd h mi se na (-((H * 60 + M) * 60))), .bool true]) (results_61 Tryz.results106 _ _ _ _ _ _ rfl S2.fin.1 rfl) rfl ⟨S2.fin.2, y, m, dd, h, mi, se, na, (-((H * 60 + M) * 60)), by rw [T.out]; rfl, by rw [T.out]; intro x h; exact (Option.some.inj h).symm⟩
                · have T : Hid (parseP form l = none) := Lib.hid (by rw [PZ3.out, if_neg (fun h => hM h.2)]; rfl)
                  have d6 : decide (M ≤ 60) = false := by simp; omega
                  have d6b : 60 < M := by omega
                  clear hM
                  go_wp2_with (first | refine load61 rfl _ rfl _ rfl 61 _ _ S2.1 rfl ?_ | refine store61 rfl _ _ rfl _ _ rfl rfl rfl rfl 61 _ S2.1 rfl ?_)
                  exact bodyPost_ret (v := .tuple #[.agg (tCells y m dd h mi se na (-((H * 60 + M) * 60))), .bool false]) (results_61 Tryz.results106 _ _ _ _ _ _ rfl S2.fin.1 rfl) rfl ⟨S2.fin.2, y, m, dd, h, mi, se, na, (-((H * 60 + M) * 60)), by rw [T.out]; rfl, by rw [T.out]; intro x h; cases h⟩
              · have T : Hid (parseP form l = none) := Lib.hid (by rw [PZ3.out, if_neg (fun h => hH h.1)]; rfl)
                have d6 : decide (H ≤ 24) = false := by simp; omega
                have d6b : 24 < H := by omega
                clear hH
                go_wp2_with (first | refine load61 rfl _ rfl _ rfl 61 _ _ S2.1 rfl ?_ | refine store61 rfl _ _ rfl _ _ rfl rfl rfl rfl 61 _ S2.1 rfl ?_)
                exact bodyPost_ret (v := .tuple #[.agg (tCells y m dd h mi se na (-((H * 60 + M) * 60))), .bool false]) (results_61 Tryz.results106 _ _ _ _ _ _ rfl S2.fin.1 rfl) rfl ⟨S2.fin.2, y, m, dd, h, mi, se, na, (-((H * 60 + M) * 60)), by rw [T.out]; rfl, by rw [T.out]; intro x h; cases h⟩
            have k9 : ((E[0].toNat : Int) == 45) = false := byte_ne (c := E[0]) (d := 45) (by rw [HE0.out]; exact hq)
            have S2 := S1
            have PZ3 : Hid (parseP form l = (if H ≤ 24 ∧ M ≤ 60 then some (H * 3600 + M * 60) else none).map fun z => [y, m, dd, h, mi, se, na, z]) := Lib.hid (by rw [PZ2.out, if_neg hq])
            clear hq PZ2
            by_cases hH : H ≤ 24
            · by_cases hM : M ≤ 60
              · have T : Hid (parseP form l = some [y, m, dd, h, mi, se, na, (H * 60 + M) * 60]) := Lib.hid (by rw [PZ3.out, if_pos ⟨hH, hM⟩, show H * 3600 + M * 60 = (H * 60 + M) * 60 by omega]; rfl)
                go_wp2_with (first | refine load61 rfl _ rfl _ rfl 61 _ _ S2.1 rfl ?_ | refine store61 rfl _ _ rfl _ _ rfl rfl rfl rfl 61 _ S2.1 rfl ?_)
                exact bodyPost_ret (v := .tuple #[.agg (tCells y m dd h mi se na ((H * 60 + M) * 60)), .bool true]) (results_61 Tryz.results106 _ _ _ _ _ _ rfl S2.fin.1 rfl) rfl ⟨S2.fin.2, y, m, dd, h, mi, se, na, ((H * 60 + M) * 60), by rw [T.out]; rfl, by rw [T.out]; intro x h; exact (Option.some.inj h).symm⟩
              · have T : Hid (parseP form l = none) := Lib.hid (by rw [PZ3.out, if_neg (fun h => hM h.2)]; rfl)
                have d6 : decide (M ≤ 60) = false := by simp; omega
                have d6b : 60 < M := by omega
                clear hM
                go_wp2_with (first | refine load61 rfl _ rfl _ rfl 61 _ _ S2.1 rfl ?_ | refine store61 rfl _ _ rfl _ _ rfl rfl rfl rfl 61 _ S2.1 rfl ?_)
                exact bodyPost_ret (v := .tuple #[.agg (tCells y m dd h mi se na ((H * 60 + M) * 60)), .bool false]) (results_61 Tryz.results106 _ _ _ _ _ _ rfl S2.fin.1 rfl) rfl ⟨S2.fin.2, y, m, dd, h, mi, se, na, ((H * 60 + M) * 60), by rw [T.out]; rfl, by rw [T.out]; intro x h; cases h⟩
            · have T : Hid (parseP form l = none) := Lib.hid (by rw [PZ3.out, if_neg (fun h => hH h.1)]; rfl)
              have d6 : decide (H ≤ 24) = false := by simp; omega
              have d6b : 24 < H := by omega
              clear hH
              go_wp2_with (first | refine load61 rfl _ rfl _ rfl 61 _ _ S2.1 rfl ?_ | refine store61 rfl _ _ rfl _ _ rfl rfl rfl rfl 61 _ S2.1 rfl ?_)
              exact bodyPost_ret (v := .tuple #[.agg (tCells y m dd h mi se na ((H * 60 + M) * 60)), .bool false]) (results_61 Tryz.results106 _ _ _ _ _ _ rfl S2.fin.1 rfl) rfl ⟨S2.fin.2, y, m, dd, h, mi, se, na, ((H * 60 + M) * 60), by rw [T.out]; rfl, by rw [T.out]; intro x h; cases h⟩
end Go.Proofs.YtillamhoakohdaaGreatDoor
