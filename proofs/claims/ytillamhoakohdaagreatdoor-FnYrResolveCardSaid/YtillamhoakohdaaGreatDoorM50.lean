/-
  Walks: the law FnYrResolve.
-/
import Derived.Test.YtillamhoakohdaaGreatDoorM10
import Derived.Test.YtillamhoakohdaaGreatDoorM12
import Derived.Test.YtillamhoakohdaaGreatDoorM36
import Derived.Test.YtillamhoakohdaaGreatDoorM49
set_option linter.unusedVariables false
set_option linter.unusedSimpArgs false
namespace Go.Proofs.YtillamhoakohdaaGreatDoor
open Go.RowKit

theorem two_rows (w : World) (c28 c32 : Array Value) : ((w.alloc (.cells #[.int .i64 0, .bool false, .int .i64 0, .int .u64 0, .int .u64 0, .string { data := #[] }, .int .i64 0, .int .i64 0, .int .i64 0, .int .i64 0, .int .i64 0, .int .i64 0, .int .i64 0, .int .i64 0, .slice none 0 0, .slice none 0 0] 28)).alloc (.cells #[.int .i64 0, .int .i64 0, .int .i64 0, .int .i64 0, .int .i64 0, .int .i64 0] 32)).heap[w.heap.size]? = some (.cells z28 28 (0, 0)) ∧
  (((w.alloc (.cells #[.int .i64 0, .bool false, .int .i64 0, .int .u64 0, .int .u64 0, .string { data := #[] }, .int .i64 0, .int .i64 0, .int .i64 0, .int .i64 0, .int .i64 0, .int .i64 0, .int .i64 0, .int .i64 0, .slice none 0 0, .slice none 0 0] 28)).alloc (.cells #[.int .i64 0, .int .i64 0, .int .i64 0, .int .i64 0, .int .i64 0, .int .i64 0] 32)).setRow w.heap.size c28).heap[w.heap.size + 1]? = some (.cells z32 32 (0, 0)) ∧
  Below w.heap.size w ((((w.alloc (.cells #[.int .i64 0, .bool false, .int .i64 0, .int .u64 0, .int .u64 0, .string { data := #[] }, .int .i64 0, .int .i64 0, .int .i64 0, .int .i64 0, .int .i64 0, .int .i64 0, .int .i64 0, .int .i64 0, .slice none 0 0, .slice none 0 0] 28)).alloc (.cells #[.int .i64 0, .int .i64 0, .int .i64 0, .int .i64 0, .int .i64 0, .int .i64 0] 32)).setRow w.heap.size c28).setRow (w.heap.size + 1) c32) ∧
  ((((w.alloc (.cells #[.int .i64 0, .bool false, .int .i64 0, .int .u64 0, .int .u64 0, .string { data := #[] }, .int .i64 0, .int .i64 0, .int .i64 0, .int .i64 0, .int .i64 0, .int .i64 0, .int .i64 0, .int .i64 0, .slice none 0 0, .slice none 0 0] 28)).alloc (.cells #[.int .i64 0, .int .i64 0, .int .i64 0, .int .i64 0, .int .i64 0, .int .i64 0] 32)).setRow w.heap.size c28).setRow (w.heap.size + 1) c32).heap[w.heap.size]? = some (.cells c28 28 (0, 0)) ∧
  ((((w.alloc (.cells #[.int .i64 0, .bool false, .int .i64 0, .int .u64 0, .int .u64 0, .string { data := #[] }, .int .i64 0, .int .i64 0, .int .i64 0, .int .i64 0, .int .i64 0, .int .i64 0, .int .i64 0, .int .i64 0, .slice none 0 0, .slice none 0 0] 28)).alloc (.cells #[.int .i64 0, .int .i64 0, .int .i64 0, .int .i64 0, .int .i64 0, .int .i64 0] 32)).setRow w.heap.size c28).setRow (w.heap.size + 1) c32).heap[w.heap.size + 1]? = some (.cells c32 32 (0, 0)) := by
 have e1 : (w.alloc (.cells #[.int .i64 0, .bool false, .int .i64 0, .int .u64 0, .int .u64 0, .string { data := #[] }, .int .i64 0, .int .i64 0, .int .i64 0, .int .i64 0, .int .i64 0, .int .i64 0, .int .i64 0, .int .i64 0, .slice none 0 0, .slice none 0 0] 28)).heap.size = w.heap.size + 1 := by simp
 have h1 : ((w.alloc (.cells #[.int .i64 0, .bool false, .int .i64 0, .int .u64 0, .int .u64 0, .string { data := #[] }, .int .i64 0, .int .i64 0, .int .i64 0, .int .i64 0, .int .i64 0, .int .i64 0, .int .i64 0, .int .i64 0, .slice none 0 0, .slice none 0 0] 28)).alloc (.cells #[.int .i64 0, .int .i64 0, .int .i64 0, .int .i64 0, .int .i64 0, .int .i64 0] 32)).heap[w.heap.size]? = some (.cells z28 28 (0, 0)) := by
  rw [heap_alloc_old (r := w.heap.size) _ _ (by simp)]; exact heap_alloc_new _ _
 have h2 : (((w.alloc (.cells #[.int .i64 0, .bool false, .int .i64 0, .int .u64 0, .int .u64 0, .string { data := #[] }, .int .i64 0, .int .i64 0, .int .i64 0, .int .i64 0, .int .i64 0, .int .i64 0, .int .i64 0, .int .i64 0, .slice none 0 0, .slice none 0 0] 28)).alloc (.cells #[.int .i64 0, .int .i64 0, .int .i64 0, .int .i64 0, .int .i64 0, .int .i64 0] 32)).setRow w.heap.size c28).heap[w.heap.size + 1]? = some (.cells z32 32 (0, 0)) :=
  hg_setRow (by rw [← e1]; exact heap_alloc_new _ _) (by omega)
 refine ⟨h1, h2, ?_, hg_setRow (row28_set _ _ _ _ h1) (by omega), row28_set _ _ _ _ h2⟩
 exact below_setRow (below_setRow (((Below.refl _ _).alloc (Nat.le_refl _) _).alloc (by simp) _) (Nat.le_refl _)) (by omega)
theorem one_under : underOf (shortP []) [49] = some (tInt, .int 1) := by
 have h : plainOf (decide (([] : Bs) = [] ∨ ([] : Bs) = tTime)) [49] = (tInt, .int 1) := by
  rw [pln_num (by decide) (by decide) (by decide)]
  have h1 : (if (decide (([] : Bs) = [] ∨ ([] : Bs) = tTime)) = true then timeOf [49] else none) = none := by
   rw [if_pos (by decide)]; unfold timeOf; rw [if_pos (by simp)]
  rw [h1]
  exact num_int (by decide)
 rw [show shortP [] = [] from rfl, under_plain (.inl rfl) (by decide), h]
 rfl
def FnPost (w : World) (e : Ending) (w' : World) : Prop := Below w.heap.size w w' ∧ e = .returned (.bool true)
set_option maxRecDepth 100000 in
set_option maxHeartbeats 4000000 in
theorem fnYrResolve_any (s : ByteArray) (k : Int) (h0 : 0 ≤ k) (h1 : k ≤ 255) (w : World) (HG : Glob w) : Calls Tryz.prog 3 #[.string s, .int .u8 k] w (FnPost w) := by
 by_cases hbig : (2147483647 : Int) < (s.size : Int)
 ·go_enter Tryz.func3, Tryz.ntmps3
  go_wp2
  go_ret
  exact ⟨Below.refl _ _, rfl⟩
 have hb2 : decide ((2147483647 : Int) < (s.size : Int)) = false := by simp; omega
 have hb3 : (s.size : Int) ≤ 2147483647 := by omega
 have hmx : min s.size 200 ≤ s.size := Nat.min_le_left _ _
 have CT := Lib.hid (fun w => yrTag_any k h0 h1 w)
 clear h0 h1 hbig
 go_enter Tryz.func3, Tryz.ntmps3
 go_wp2_with fail
 refine (CT.out _).mono ?_
 rintro e w1 ⟨hB, T, t0, hT, hTs, hsame, rfl⟩
 have HT := Lib.hid hT
 have HTS := Lib.hid hTs
 have HSAME := Lib.hid hsame
 have HB := Lib.hid hB
 have HG1 := Lib.hid (HG.below hB)
 have HC : Hid (StrIs (s.extract 0 (min (s.size : Int) 200).toNat) (s.data.toList.take (min (s.size : Int) 200).toNat)) := Lib.hid (StrIs.take rfl _)
 have HCS : Hid ((s.extract 0 (min (s.size : Int) 200).toNat).size ≤ 200) := Lib.hid (by rw [ByteArray.size_extract]; omega)
 generalize s.extract 0 (min (s.size : Int) 200).toNat = c at *
 generalize s.data.toList.take (min (s.size : Int) 200).toNat = l at *
 clear hT hTs hsame hB HG CT
 go_wp2_with fail
 refine (resolve3_any T c t0 l _ HT.out HC.out HTS.out HCS.out).mono ?_
 rintro e w2 ⟨hB, h⟩
 have HB2 := Lib.hid (HB.out.trans (hB.mono HB.out.size))
 have HG2 := Lib.hid (HG1.out.below hB)
 clear HB HG1 hB
 rw [HSAME.out] at h
 obtain ⟨s1, v1, tg, p, hu, hs1, hv1, rfl⟩ | ⟨hu, rfl⟩ := h
 ·obtain ⟨vk, vb, vi, vu, vf, vt, a0, a1, a2, a3, a4, a5, a6, a7, rfl⟩ := vis_cells hv1
  have HU := Lib.hid hu
  have HS1 := Lib.hid hs1
  have HV1 := Lib.hid hv1
  obtain ⟨r1, r2, r3, r4, r5⟩ := two_rows w2 (vCells vk vb vi vu vf vt a0 a1 a2 a3 a4 a5 a6 a7) z32
  have R1 := Lib.hid r1
  have R2 := Lib.hid r2
  have R3 := Lib.hid r3
  have R4 := Lib.hid r4
  have R5 := Lib.hid r5
  clear hu hs1 hv1 r1 r2 r3 r4 r5
  go_upto_region 6 with (first | (refine store28 rfl (.tmp 7) (.tmp 30) rfl _ (vCells vk vb vi vu vf vt a0 a1 a2 a3 a4 a5 a6 a7) rfl rfl rfl rfl 28 _ R1.out rfl ?_) | (refine store32 rfl (.tmp 8) (.tmp 31) rfl _ z32 rfl rfl rfl rfl 32 _ R2.out rfl ?_))
  have HB3 := Lib.hid (HB2.out.trans (R3.out.mono HB2.out.size))
  have HG3 := Lib.hid (HG2.out.below R3.out)
  clear R1 R2 R3 HB2 HG2
  generalize World.setRow (World.setRow (World.alloc (World.alloc w2 (.cells #[.int .i64 0, .bool false, .int .i64 0, .int .u64 0, .int .u64 0, .string { data := #[] }, .int .i64 0, .int .i64 0, .int .i64 0, .int .i64 0, .int .i64 0, .int .i64 0, .int .i64 0, .int .i64 0, .slice none 0 0, .slice none 0 0] 28)) (.cells #[.int .i64 0, .int .i64 0, .int .i64 0, .int .i64 0, .int .i64 0, .int .i64 0] 32)) w2.heap.size (vCells vk vb vi vu vf vt a0 a1 a2 a3 a4 a5 a6 a7)) (w2.heap.size + 1) z32 = w3 at *
  generalize w2.heap.size = n7 at *
  go_wp2_with fail
  refine (ylResolve_of realPF T c t0 l _ HG3.out HT.out HC.out HCS.out HTS.out).mono ?_
  rintro e w4 ⟨hB, h⟩
  obtain ⟨tg', p', s2, v2, hu, hs2, hv2, rfl⟩ | ⟨hu, rfl⟩ := h
  case inr => rw [HU.out] at hu; cases hu
  rw [HU.out] at hu
  cases hu
  obtain rfl := HS1.out.same hs2
  obtain rfl := vis_same HV1.out hv2
  clear hs2 hv2 HS1 HV1 HU
  have HB4 := Lib.hid (HB3.out.trans (hB.mono HB3.out.size))
  have HG4 := Lib.hid (HG3.out.below hB)
  have R6 := Lib.hid (hg_below hB (lt_of_heap R4.out) R4.out)
  have R7 := Lib.hid (hg_below hB (lt_of_heap R5.out) R5.out)
  clear hB HB3 HG3 R4 R5
  go_upto_region 7 with (refine store28 rfl (.tmp 10) (.tmp 37) rfl _ (vCells vk vb vi vu vf vt a0 a1 a2 a3 a4 a5 a6 a7) rfl rfl rfl rfl 28 _ (heap_alloc_new _ _) rfl ?_; rw [World.setRow_alloc_new])
  have hBa : Below w4.heap.size w4 (w4.alloc (.cells (vCells vk vb vi vu vf vt a0 a1 a2 a3 a4 a5 a6 a7) 28)) := (Below.refl _ _).alloc (Nat.le_refl _) _
  have HB5 := Lib.hid (HB4.out.trans (hBa.mono HB4.out.size))
  have R8 := Lib.hid (hg_below hBa (lt_of_heap R6.out) R6.out)
  have R9 := Lib.hid (hg_below hBa (lt_of_heap R7.out) R7.out)
  have R10 := Lib.hid (heap_alloc_new w4 (.cells (vCells vk vb vi vu vf vt a0 a1 a2 a3 a4 a5 a6 a7) 28))
  clear hBa HB4 HG4 R6 R7
  generalize World.alloc w4 (.cells (vCells vk vb vi vu vf vt a0 a1 a2 a3 a4 a5 a6 a7) 28) = w5 at *
  generalize w4.heap.size = n10 at *
  go_wp2_with fail
  refine (resolve3_any ⟨#[]⟩ ⟨#[49]⟩ [] [49] _ rfl rfl (by decide) (by decide)).mono ?_
  rintro e w6 ⟨hB, h⟩
  obtain ⟨s3, v3, tg3, p3, hu, hs3, hv3, rfl⟩ | ⟨hu, rfl⟩ := h
  case inr => rw [one_under] at hu; cases hu
  rw [one_under] at hu
  cases hu
  have E3 : (s3.toList == [33, 33, 105, 110, 116]) = true := by rw [Lib.toList_data, show s3.data.toList = tInt from hs3]; rfl
  obtain ⟨uk, ub, ui, uu, uf, ut, b0, b1, b2, b3, b4, b5, b6, b7, rfl⟩ := vis_cells hv3
  obtain ⟨r1, r2, r3, r4, r5⟩ := two_rows w6 (vCells uk ub ui uu uf ut b0 b1 b2 b3 b4 b5 b6 b7) z32
  have HB6 := Lib.hid ((HB5.out.trans (hB.mono HB5.out.size)).trans (r3.mono (Nat.le_trans HB5.out.size hB.size)))
  have R11 := Lib.hid (hg_below r3 (Nat.lt_of_lt_of_le (lt_of_heap R8.out) hB.size) (hg_below hB (lt_of_heap R8.out) R8.out))
  have R12 := Lib.hid (hg_below r3 (Nat.lt_of_lt_of_le (lt_of_heap R9.out) hB.size) (hg_below hB (lt_of_heap R9.out) R9.out))
  have R13 := Lib.hid (hg_below r3 (Nat.lt_of_lt_of_le (lt_of_heap R10.out) hB.size) (hg_below hB (lt_of_heap R10.out) R10.out))
  have Q1 := Lib.hid r1
  have Q2 := Lib.hid r2
  clear hs3 hv3 hB r1 r2 r3 r4 r5 R8 R9 R10 HB5
  go_upto_region 8 with (first | (refine store28 rfl (.tmp 13) (.tmp 42) rfl _ (vCells uk ub ui uu uf ut b0 b1 b2 b3 b4 b5 b6 b7) rfl rfl rfl rfl 28 _ Q1.out rfl ?_) | (refine store32 rfl (.tmp 14) (.tmp 43) rfl _ z32 rfl rfl rfl rfl 32 _ Q2.out rfl ?_))
  clear Q1 Q2
  generalize World.setRow (World.setRow (World.alloc (World.alloc w6 (.cells #[.int .i64 0, .bool false, .int .i64 0, .int .u64 0, .int .u64 0, .string { data := #[] }, .int .i64 0, .int .i64 0, .int .i64 0, .int .i64 0, .int .i64 0, .int .i64 0, .int .i64 0, .int .i64 0, .slice none 0 0, .slice none 0 0] 28)) (.cells #[.int .i64 0, .int .i64 0, .int .i64 0, .int .i64 0, .int .i64 0, .int .i64 0] 32)) w6.heap.size (vCells uk ub ui uu uf ut b0 b1 b2 b3 b4 b5 b6 b7)) (w6.heap.size + 1) z32 = w7 at *
  have cK : w7.cell? ⟨n7 + 1, 0, none⟩ = some (.int .i64 0) := cellv R12.out 0 _ rfl
  have SV := Lib.hid (fun w => sameValue_any vk vb vi vu vf vt a0 a1 a2 a3 a4 a5 a6 a7 w)
  have c7_0 : w7.cell? ⟨n7, 0, none⟩ = some (.int .i64 vk) := cellv R11.out 0 _ rfl
  have c10_0 : w7.cell? ⟨n10, 0, none⟩ = some (.int .i64 vk) := cellv R13.out 0 _ rfl
  have c7_1 : w7.cell? ⟨n7, 1, none⟩ = some (.bool vb) := cellv R11.out 1 _ rfl
  have c10_1 : w7.cell? ⟨n10, 1, none⟩ = some (.bool vb) := cellv R13.out 1 _ rfl
  have c7_2 : w7.cell? ⟨n7, 2, none⟩ = some (.int .i64 vi) := cellv R11.out 2 _ rfl
  have c10_2 : w7.cell? ⟨n10, 2, none⟩ = some (.int .i64 vi) := cellv R13.out 2 _ rfl
  have c7_3 : w7.cell? ⟨n7, 3, none⟩ = some (.int .u64 vu) := cellv R11.out 3 _ rfl
  have c10_3 : w7.cell? ⟨n10, 3, none⟩ = some (.int .u64 vu) := cellv R13.out 3 _ rfl
  have c7_4 : w7.cell? ⟨n7, 4, none⟩ = some (.int .u64 vf) := cellv R11.out 4 _ rfl
  have c10_4 : w7.cell? ⟨n10, 4, none⟩ = some (.int .u64 vf) := cellv R13.out 4 _ rfl
  have c7_5 : w7.cell? ⟨n7, 5, none⟩ = some (.string vt) := cellv R11.out 5 _ rfl
  have c10_5 : w7.cell? ⟨n10, 5, none⟩ = some (.string vt) := cellv R13.out 5 _ rfl
  have c7_6 : w7.cell? ⟨n7, 6, none⟩ = some (.int .i64 a0) := cellv R11.out 6 _ rfl
  have c10_6 : w7.cell? ⟨n10, 6, none⟩ = some (.int .i64 a0) := cellv R13.out 6 _ rfl
  have c7_7 : w7.cell? ⟨n7, 7, none⟩ = some (.int .i64 a1) := cellv R11.out 7 _ rfl
  have c10_7 : w7.cell? ⟨n10, 7, none⟩ = some (.int .i64 a1) := cellv R13.out 7 _ rfl
  have c7_8 : w7.cell? ⟨n7, 8, none⟩ = some (.int .i64 a2) := cellv R11.out 8 _ rfl
  have c10_8 : w7.cell? ⟨n10, 8, none⟩ = some (.int .i64 a2) := cellv R13.out 8 _ rfl
  have c7_9 : w7.cell? ⟨n7, 9, none⟩ = some (.int .i64 a3) := cellv R11.out 9 _ rfl
  have c10_9 : w7.cell? ⟨n10, 9, none⟩ = some (.int .i64 a3) := cellv R13.out 9 _ rfl
  have c7_10 : w7.cell? ⟨n7, 10, none⟩ = some (.int .i64 a4) := cellv R11.out 10 _ rfl
  have c10_10 : w7.cell? ⟨n10, 10, none⟩ = some (.int .i64 a4) := cellv R13.out 10 _ rfl
  have c7_11 : w7.cell? ⟨n7, 11, none⟩ = some (.int .i64 a5) := cellv R11.out 11 _ rfl
  have c10_11 : w7.cell? ⟨n10, 11, none⟩ = some (.int .i64 a5) := cellv R13.out 11 _ rfl
  have c7_12 : w7.cell? ⟨n7, 12, none⟩ = some (.int .i64 a6) := cellv R11.out 12 _ rfl
  have c10_12 : w7.cell? ⟨n10, 12, none⟩ = some (.int .i64 a6) := cellv R13.out 12 _ rfl
  have c7_13 : w7.cell? ⟨n7, 13, none⟩ = some (.int .i64 a7) := cellv R11.out 13 _ rfl
  have c10_13 : w7.cell? ⟨n10, 13, none⟩ = some (.int .i64 a7) := cellv R13.out 13 _ rfl
  have c7_14 : w7.cell? ⟨n7, 14, none⟩ = some (.slice none 0 0) := cellv R11.out 14 _ rfl
  have c10_14 : w7.cell? ⟨n10, 14, none⟩ = some (.slice none 0 0) := cellv R13.out 14 _ rfl
  have c7_15 : w7.cell? ⟨n7, 15, none⟩ = some (.slice none 0 0) := cellv R11.out 15 _ rfl
  have c10_15 : w7.cell? ⟨n10, 15, none⟩ = some (.slice none 0 0) := cellv R13.out 15 _ rfl
  go_wp2_with fail
  refine (SV.out _).mono ?_
  rintro e w8 ⟨rfl, hB8⟩
  go_wp2_with fail
  go_ret
  exact ⟨HB6.out.trans (hB8.mono HB6.out.size), rfl⟩
 ·have HU := Lib.hid hu
  obtain ⟨r1, r2, r3, r4, r5⟩ := two_rows w2 z28 (k32 7)
  have R1 := Lib.hid r1
  have R2 := Lib.hid r2
  have R3 := Lib.hid r3
  have R4 := Lib.hid r4
  have R5 := Lib.hid r5
  clear hu r1 r2 r3 r4 r5
  go_upto_region 6 with (first | (refine store28 rfl (.tmp 7) (.tmp 30) rfl _ z28 rfl rfl rfl rfl 28 _ R1.out rfl ?_) | (refine store32 rfl (.tmp 8) (.tmp 31) rfl _ (k32 7) rfl rfl rfl rfl 32 _ R2.out rfl ?_))
  have HB3 := Lib.hid (HB2.out.trans (R3.out.mono HB2.out.size))
  have HG3 := Lib.hid (HG2.out.below R3.out)
  clear R1 R2 R3 HB2 HG2
  generalize World.setRow (World.setRow (World.alloc (World.alloc w2 (.cells #[.int .i64 0, .bool false, .int .i64 0, .int .u64 0, .int .u64 0, .string { data := #[] }, .int .i64 0, .int .i64 0, .int .i64 0, .int .i64 0, .int .i64 0, .int .i64 0, .int .i64 0, .int .i64 0, .slice none 0 0, .slice none 0 0] 28)) (.cells #[.int .i64 0, .int .i64 0, .int .i64 0, .int .i64 0, .int .i64 0, .int .i64 0] 32)) w2.heap.size z28) (w2.heap.size + 1) (k32 7) = w3 at *
  generalize w2.heap.size = n7 at *
  go_wp2_with fail
  refine (ylResolve_of realPF T c t0 l _ HG3.out HT.out HC.out HCS.out HTS.out).mono ?_
  rintro e w4 ⟨hB, h⟩
  obtain ⟨tg', p', s2, v2, hu, hs2, hv2, rfl⟩ | ⟨hu, rfl⟩ := h
  case inl => rw [HU.out] at hu; cases hu
  clear hu HU
  have HB4 := Lib.hid (HB3.out.trans (hB.mono HB3.out.size))
  have HG4 := Lib.hid (HG3.out.below hB)
  have R6 := Lib.hid (hg_below hB (lt_of_heap R4.out) R4.out)
  have R7 := Lib.hid (hg_below hB (lt_of_heap R5.out) R5.out)
  clear hB HB3 HG3 R4 R5
  go_upto_region 7 with (refine store28 rfl (.tmp 10) (.tmp 37) rfl _ z28 rfl rfl rfl rfl 28 _ (heap_alloc_new _ _) rfl ?_; rw [World.setRow_alloc_new])
  have hBa : Below w4.heap.size w4 (w4.alloc (.cells z28 28)) := (Below.refl _ _).alloc (Nat.le_refl _) _
  have HB5 := Lib.hid (HB4.out.trans (hBa.mono HB4.out.size))
  have R8 := Lib.hid (hg_below hBa (lt_of_heap R6.out) R6.out)
  have R9 := Lib.hid (hg_below hBa (lt_of_heap R7.out) R7.out)
  have R10 := Lib.hid (heap_alloc_new w4 (.cells z28 28))
  clear hBa HB4 HG4 R6 R7
  generalize World.alloc w4 (.cells z28 28) = w5 at *
  generalize w4.heap.size = n10 at *
  go_wp2_with fail
  refine (resolve3_any ⟨#[]⟩ ⟨#[49]⟩ [] [49] _ rfl rfl (by decide) (by decide)).mono ?_
  rintro e w6 ⟨hB, h⟩
  obtain ⟨s3, v3, tg3, p3, hu, hs3, hv3, rfl⟩ | ⟨hu, rfl⟩ := h
  case inr => rw [one_under] at hu; cases hu
  rw [one_under] at hu
  cases hu
  have E3 : (s3.toList == [33, 33, 105, 110, 116]) = true := by rw [Lib.toList_data, show s3.data.toList = tInt from hs3]; rfl
  obtain ⟨uk, ub, ui, uu, uf, ut, b0, b1, b2, b3, b4, b5, b6, b7, rfl⟩ := vis_cells hv3
  obtain ⟨r1, r2, r3, r4, r5⟩ := two_rows w6 (vCells uk ub ui uu uf ut b0 b1 b2 b3 b4 b5 b6 b7) z32
  have HB6 := Lib.hid ((HB5.out.trans (hB.mono HB5.out.size)).trans (r3.mono (Nat.le_trans HB5.out.size hB.size)))
  have R11 := Lib.hid (hg_below r3 (Nat.lt_of_lt_of_le (lt_of_heap R8.out) hB.size) (hg_below hB (lt_of_heap R8.out) R8.out))
  have R12 := Lib.hid (hg_below r3 (Nat.lt_of_lt_of_le (lt_of_heap R9.out) hB.size) (hg_below hB (lt_of_heap R9.out) R9.out))
  have R13 := Lib.hid (hg_below r3 (Nat.lt_of_lt_of_le (lt_of_heap R10.out) hB.size) (hg_below hB (lt_of_heap R10.out) R10.out))
  have Q1 := Lib.hid r1
  have Q2 := Lib.hid r2
  clear hs3 hv3 hB r1 r2 r3 r4 r5 R8 R9 R10 HB5
  go_upto_region 8 with (first | (refine store28 rfl (.tmp 13) (.tmp 42) rfl _ (vCells uk ub ui uu uf ut b0 b1 b2 b3 b4 b5 b6 b7) rfl rfl rfl rfl 28 _ Q1.out rfl ?_) | (refine store32 rfl (.tmp 14) (.tmp 43) rfl _ z32 rfl rfl rfl rfl 32 _ Q2.out rfl ?_))
  clear Q1 Q2
  generalize World.setRow (World.setRow (World.alloc (World.alloc w6 (.cells #[.int .i64 0, .bool false, .int .i64 0, .int .u64 0, .int .u64 0, .string { data := #[] }, .int .i64 0, .int .i64 0, .int .i64 0, .int .i64 0, .int .i64 0, .int .i64 0, .int .i64 0, .int .i64 0, .slice none 0 0, .slice none 0 0] 28)) (.cells #[.int .i64 0, .int .i64 0, .int .i64 0, .int .i64 0, .int .i64 0, .int .i64 0] 32)) w6.heap.size (vCells uk ub ui uu uf ut b0 b1 b2 b3 b4 b5 b6 b7)) (w6.heap.size + 1) z32 = w7 at *
  have cK : w7.cell? ⟨n7 + 1, 0, none⟩ = some (.int .i64 7) := cellv R12.out 0 _ rfl
  go_wp2_with fail
  go_ret
  exact ⟨HB6.out, rfl⟩
end Go.Proofs.YtillamhoakohdaaGreatDoor
