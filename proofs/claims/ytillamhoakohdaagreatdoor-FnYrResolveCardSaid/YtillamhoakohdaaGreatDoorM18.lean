/-
  Ground: the light decimal: a block of two cells, its digits in a row of their own. Nothing is claimed here. Walks: the light decimal's small functions. Ground: the slow decimal: one block of 800 bytes, their count, the point, the sign, the mark. Nothing is claimed here. Walks: the slow decimal's trim.
-/
import Derived.Deep.CutRange
import Derived.Deep.CutBlock
import Derived.Test.YtillamhoakohdaaGreatDoorM01
import Derived.Test.YtillamhoakohdaaGreatDoorM02
import Derived.Test.YtillamhoakohdaaGreatDoorM04
set_option linter.unusedVariables false
set_option linter.unusedSimpArgs false
namespace Go.Proofs.YtillamhoakohdaaGreatDoor
open Go.RowKit

structure DecAt (base a : Nat) (v : Value) (ds : Bs) (dp : Int) (w : World) : Prop where
 row : w.heap[a]? = some (.cells #[v, .int .i64 dp] 161 (0, 0))
 own : OwnB base w v ds
 ne : v.ownBlock ≠ some a
 ha : base ≤ a

theorem DecAt.lt {base a : Nat} {v : Value} {ds : Bs} {dp : Int} {w : World} (h : DecAt base a v ds dp w) : a < w.heap.size := (Array.getElem?_eq_some_iff.1 h.row).1
theorem DecAt.c0 {base a : Nat} {v : Value} {ds : Bs} {dp : Int} {w : World} (h : DecAt base a v ds dp w) : w.cell? ⟨a, 0, none⟩ = some v := (cell_of_row _ _ 0 _ _ _ h.row).trans rfl
theorem DecAt.c1 {base a : Nat} {v : Value} {ds : Bs} {dp : Int} {w : World} (h : DecAt base a v ds dp w) : w.cell? ⟨a, 1, none⟩ = some (.int .i64 dp) := (cell_of_row _ _ 1 _ _ _ h.row).trans rfl
theorem DecAt.f0 {base a : Nat} {v : Value} {ds : Bs} {dp : Int} {w : World} (h : DecAt base a v ds dp w) : w.frozen? ⟨a, 0, none⟩ = false := frozen_of_row _ _ 0 _ _ h.row
theorem DecAt.f1 {base a : Nat} {v : Value} {ds : Bs} {dp : Int} {w : World} (h : DecAt base a v ds dp w) : w.frozen? ⟨a, 1, none⟩ = false := frozen_of_row _ _ 1 _ _ h.row
theorem own_shape {base : Nat} {v : Value} {l : Bs} {w : World} (h : OwnB base w v l) : (∃ p cap, v = .slice p l.length cap) ∧ (l ≠ [] → ∃ g cap, v = .slice (some ⟨g, 0, none⟩) l.length cap ∧ base ≤ g ∧ g < w.heap.size ∧ l.length ≤ cap ∧ cap ≤ maxLen) := by
 rcases h.2 with ⟨rfl, h0⟩ | ⟨g, cap, cur, rfl, hb, hg, hn, hm, _⟩
 ·obtain rfl : l = [] := List.eq_nil_of_length_eq_zero h0
  exact ⟨⟨none, 0, rfl⟩, fun h => absurd rfl h⟩
 ·exact ⟨⟨_, cap, rfl⟩, fun _ => ⟨g, cap, rfl, hb, (Array.getElem?_eq_some_iff.1 hg).1, hn, hm⟩⟩
theorem own_cell {base g cap : Nat} {l : Bs} {w : World} (h : OwnB base w (.slice (some ⟨g, 0, none⟩) l.length cap) l) (i : Nat) (hi : i < l.length) : w.cell? ⟨g, i, none⟩ = some (.int .u8 (l[i].toNat : Int)) := by
 rw [World.ownsRow.cellAt h i (by simpa using hi)]
 simp [u8s, hi]
theorem own_below {base B : Nat} {v : Value} {l : Bs} {w w' : World} (h : OwnB base w v l) (hb : Below B w w') (hv : ∀ k, v.ownBlock = some k → k < B) : OwnB base w' v l := by
 refine ⟨h.1, ?_⟩
 rcases h.2 with h1 | ⟨g, cap, cur, rfl, h2, h3, h4⟩
 ·exact .inl h1
 ·exact .inr ⟨g, cap, cur, rfl, h2, (hb.block g (hv g rfl)).trans h3, h4⟩
theorem own_lt {base : Nat} {v : Value} {l : Bs} {w : World} (h : OwnB base w v l) : ∀ k, v.ownBlock = some k → k < w.heap.size := fun k hk => (World.ownsRow.lt h k hk).2
theorem DecAt.below {base a : Nat} {v : Value} {ds : Bs} {dp : Int} {w w' : World} (h : DecAt base a v ds dp w) (hb : Below w.heap.size w w') : DecAt base a v ds dp w' :=
 ⟨(hb.block a h.lt).trans h.row, own_below h.own hb (own_lt h.own), h.ne, h.ha⟩
theorem DecAt.drew {base a : Nat} {v : Value} {ds : Bs} {dp : Int} {w : World} (h : DecAt base a v ds dp w) (n : Nat) : DecAt base a v ds dp (w.drewN n) := ⟨h.row, h.own, h.ne, h.ha⟩
theorem DecAt.setDp {base a : Nat} {v : Value} {ds : Bs} {dp : Int} {w : World} (h : DecAt base a v ds dp w) (dp' : Int) : DecAt base a v ds dp' (w.setCell ⟨a, 1, none⟩ (.int .i64 dp')) := by
 refine ⟨heap_setCell_same _ _ _ _ _ _ h.row, ⟨h.own.1, ?_⟩, h.ne, h.ha⟩
 rcases h.own.2 with h1 | ⟨g, cap, cur, rfl, h2, h3, h4⟩
 ·exact .inl h1
 ·exact .inr ⟨g, cap, cur, rfl, h2, (heap_setCell_other _ ⟨a, 1, none⟩ g _ (by intro e; apply h.ne; simp at e; simp [Value.ownBlock, e])).trans h3, h4⟩
theorem DecAt.setD {base a : Nat} {v v' : Value} {ds ds' : Bs} {dp : Int} {w : World} (h : DecAt base a v ds dp w) (ho : OwnB base w v' ds') (hne : v'.ownBlock ≠ some a) : DecAt base a v' ds' dp (w.setCell ⟨a, 0, none⟩ v') := by
 refine ⟨heap_setCell_same _ _ _ _ _ _ h.row, ⟨ho.1, ?_⟩, hne, h.ha⟩
 rcases ho.2 with h1 | ⟨g, cap, cur, rfl, h2, h3, h4⟩
 ·exact .inl h1
 ·exact .inr ⟨g, cap, cur, rfl, h2, (heap_setCell_other _ ⟨a, 0, none⟩ g _ (by intro e; apply hne; simp at e; simp [Value.ownBlock, e])).trans h3, h4⟩
theorem own_take {base g n cap : Nat} {l l' : Bs} {w : World} (h : OwnB base w (.slice (some ⟨g, 0, none⟩) n cap) (l ++ l')) : OwnB base w (.slice (some ⟨g, 0, none⟩) l.length cap) l := by
 rcases h.2 with ⟨h1, _⟩ | ⟨g', cap', cur, h1, h2, h3, h4, h5, h6, h7⟩
 ·cases h1
 ·simp only [Value.slice.injEq, Option.some.injEq, Addr.mk.injEq, and_true, true_and] at h1
  obtain ⟨rfl, hn, rfl⟩ := h1
  simp only [List.length_append] at h4 h7
  refine ⟨by simp [u8s], .inr ⟨g, cap, cur, rfl, h2, h3, by omega, h5, h6, ?_⟩⟩
  have := congrArg (List.take l.length) h7
  rw [List.take_take, Nat.min_eq_left (by omega)] at this
  rw [Nat.mul_one, this]
  simp [u8s]
theorem below_setCell {B b o : Nat} {w0 w : World} (h : Below B w0 w) (hb : B ≤ b) (v : Value) : Below B w0 (w.setCell ⟨b, o, none⟩ v) := h.setCell hb v

def Fr (a : Nat) (w w' : World) : Prop := w.grownBy w' (some a)
theorem Fr.refl (a : Nat) (w : World) : Fr a w w := ⟨rfl, rfl, rfl, Nat.le_refl _, fun _ _ _ => rfl⟩
theorem Fr.trans {a : Nat} {w1 w2 w3 : World} (h : Fr a w1 w2) (k : Fr a w2 w3) : Fr a w1 w3 :=
 ⟨k.os.trans h.os, k.tape.trans h.tape, k.output.trans h.output, Nat.le_trans h.size k.size, fun j hj hne => (k.block j (Nat.lt_of_lt_of_le hj h.size) hne).trans (h.block j hj hne)⟩
theorem fr_set {a o : Nat} {v : Value} {w0 w : World} (h : Fr a w0 w) : Fr a w0 (w.setCell ⟨a, o, none⟩ v) :=
 ⟨h.os, h.tape, h.output, by have := h.size; simpa using this, fun j hj hne => (heap_setCell_other _ ⟨a, o, none⟩ j _ (by intro e; exact hne (by rw [e]))).trans (h.block j hj hne)⟩
theorem fr_drew {a : Nat} {w0 w : World} (h : Fr a w0 w) (n : Nat) : Fr a w0 (w.drewN n) := h.trans ⟨rfl, rfl, rfl, Nat.le_refl _, fun _ _ _ => rfl⟩
theorem fr_then {a B : Nat} {w0 w w' : World} (h : Fr a w0 w) (hb : Below B w w') (hB : w0.heap.size ≤ B) : Fr a w0 w' :=
 ⟨hb.os.trans h.os, hb.tape.trans h.tape, hb.output.trans h.output, Nat.le_trans h.size hb.size, fun j hj hne => (hb.block j (Nat.lt_of_lt_of_le hj hB)).trans (h.block j hj hne)⟩
theorem Fr.below {a B : Nat} {w w' : World} (h : Fr a w w') (ha : B ≤ a) (hB : B ≤ w.heap.size) : Below B w w' :=
 ⟨h.os, h.tape, h.output, h.size, fun j hj => h.block j (by omega) (by intro e; simp at e; omega)⟩
theorem append_num {w0 W : World} {ops : Array Oper} {rest : List Oper} {o : Oper} {a : Act} {Q : Exit → Act → World → Prop} (base : Nat) (hgd : o.guard = none) (s x : Operand)
  (ho : o.op = .call { callee := .builtin .append, args := #[s, x], argTypes := #[60, 60] })
  (v : Value) (l : Bs) (n : Int) (d : UInt8) (hd : n = d.toNat) (hs : a.eval s = v) (hx : a.eval x = .slice (some ⟨W.heap.size, 0, none⟩) 1 1)
  (HO : OwnB base W v l) (HB : Below base w0 W) (hbase : base ≤ W.heap.size) (hl : l.length + 1 ≤ 1000000)
  (h : ∀ v1 w1, OwnB base w1 v1 (l ++ [d]) → Below base w0 w1 → W.grownBy w1 v.ownBlock → wpList Tryz.prog ops Q rest (a.put o.dst v1) w1) :
  wpList Tryz.prog ops Q (o :: rest) a (W.alloc (.cells #[.int .u8 n] 5)) := by
 subst hd
 exact append_byte base hgd s x ho v l d hs hx HO HB hbase hl h
end Go.Proofs.YtillamhoakohdaaGreatDoor
namespace Go.Proofs.YtillamhoakohdaaGreatDoor
open Go.RowKit
attribute [local go_sem] setCell_drewN

def sliceLen : Value → Nat
 | .slice _ n _ => n
 | _ => 0
def lenAt (a : Nat) (w : World) : Nat := sliceLen ((w.cell? ⟨a, 0, none⟩).getD (.bool false))
theorem DecAt.lenAt {base a : Nat} {v : Value} {ds : Bs} {dp : Int} {w : World} (h : DecAt base a v ds dp w) : lenAt a w = ds.length := by
 obtain ⟨⟨p, cap, rfl⟩, _⟩ := own_shape h.own
 unfold Proofs.YtillamhoakohdaaGreatDoor.lenAt
 rw [h.c0]
 rfl

def TrimPost (base a : Nat) (ds : Bs) (dp : Int) (w : World) (e : Ending) (w' : World) : Prop :=
 e = .returned (.pointer (some ⟨a, 0, none⟩)) ∧ Fr a w w' ∧ w.heap.size ≤ w'.heap.size ∧ ∃ v', DecAt base a v' (trimR ds) (if trimR ds = [] then 0 else dp) w'

set_option maxHeartbeats 4000000 in
theorem trim_any (base a : Nat) (v : Value) (ds : Bs) (dp : Int) (w : World) (hd : DecAt base a v ds dp w) :
  Calls Tryz.prog 99 #[.pointer (some ⟨a, 0, none⟩)] w (TrimPost base a ds dp w) := by
 go_enter Tryz.func99, Tryz.ntmps99
 go_upto_region 1 with fail
 go_loopw [] (fun wr => ∃ v' l, DecAt base a v' l dp wr ∧ Fr a w wr ∧ w.heap.size ≤ wr.heap.size ∧ Hid (trimR l = trimR ds)) (fun wr => lenAt a wr)
 case atStart => exact ⟨v, ds, hd, Fr.refl _ _, Nat.le_refl _, Lib.hid rfl⟩
 case round =>
  obtain ⟨v', l, hD, hB, hS, H⟩ := hrel
  have c0 := hD.c0
  have f0 := hD.f0
  have f1 := hD.f1
  have c1 := hD.c1
  rcases List.eq_nil_or_concat l with rfl | ⟨l', d, rfl⟩
  ·obtain ⟨⟨p, cap, rfl⟩, _⟩ := own_shape hD.own
   have hf : decide ((0 : Int) < ((0 : Nat) : Int)) = false := by decide
   have T : Hid (trimR ds = []) := Lib.hid (by rw [← H.out, trimR_nil])
   go_wp2
   go_quiet (fail)
   go_wp2
   go_ret
   exact ⟨rfl, fr_drew (fr_set hB) _, by simp; omega, .slice p 0 cap, by rw [T.out]; exact (hD.setDp 0).drew _⟩
  ·obtain ⟨⟨p, cap, rfl⟩, hsh⟩ := own_shape hD.own
   obtain ⟨g, cap', e, hg1, hg2, hg3, hg4⟩ := hsh (by simp)
   simp only [Value.slice.injEq, true_and] at e
   obtain ⟨rfl, rfl⟩ := e
   have hc := own_cell hD.own (l'.length) (by simp)
   simp only [List.concat_eq_append, List.getElem_append_right (Nat.le_refl _), Nat.sub_self, List.getElem_cons_zero] at hc hD hg3 H
   have hn : (l' ++ [d]).length = l'.length + 1 := by simp
   simp only [List.concat_eq_append] at *
   rw [hn] at c0 hg3
   obtain ⟨M, hM⟩ : ∃ M : Nat, M = l'.length + 1 := ⟨_, rfl⟩
   rw [← hM] at c0 hg3
   have hm : maxLen = maxLen := rfl
   unfold maxLen at hm hg4
   have i1 : (0 : Int) < (M : Int) := by omega
   have i2 : (0 : Int) ≤ (M : Int) - 1 := by omega
   have i3 : (M : Int) - 1 < (M : Int) := by omega
   have i4 : ((M : Int) - 1).toNat = l'.length := by omega
   by_cases h0 : d = 0
   ·subst h0
    go_wp2
    go_quiet (fail)
    go_wp2
    go_region
    go_wp2
    go_round
    case rel =>
     refine ⟨_, l', ((hD.setD (own_take hD.own) hD.ne).drew _), fr_drew (fr_set hB) _, by simp; omega, Lib.hid ?_⟩
     rw [← H.out, trimR_zero]
    case measure =>
     rw [hD.lenAt, ((hD.setD (own_take hD.own) hD.ne).drew _).lenAt]; simp
   ·have k1 : ((d.toNat : Int) == 0) = false := byte_ne (d := 0) h0
    have T : Hid (trimR ds = l' ++ [d]) := Lib.hid (by rw [← H.out, trimR_keep _ _ h0])
    go_wp2
    go_quiet (fail)
    go_wp2
    go_ret
    exact ⟨rfl, fr_drew hB _, by simp; omega, _, by rw [T.out, if_neg (by simp)]; exact hD.drew _⟩
end Go.Proofs.YtillamhoakohdaaGreatDoor
namespace Go.Proofs.YtillamhoakohdaaGreatDoor
open Go.RowKit

structure BD (a : Nat) (g : Nat → Nat) (nd : Nat) (dp : Int) (neg tr : Bool) (w : World) : Prop where
 cd : ∀ i, i < 800 → w.cell? ⟨a, i, none⟩ = some (.int .u8 (g i : Int))
 cn : w.cell? ⟨a, 800, none⟩ = some (.int .i64 (nd : Int))
 cp : w.cell? ⟨a, 801, none⟩ = some (.int .i64 dp)
 cg : w.cell? ⟨a, 802, none⟩ = some (.bool neg)
 ct : w.cell? ⟨a, 803, none⟩ = some (.bool tr)
 fz : ∀ i, w.frozen? ⟨a, i, none⟩ = false
 lt : a < w.heap.size
def updN (g : Nat → Nat) (i v : Nat) : Nat → Nat := fun j => if j = i then v else g j
theorem upd_same (g : Nat → Nat) (i v : Nat) : updN g i v i = v := if_pos rfl
theorem upd_other (g : Nat → Nat) {i j : Nat} (v : Nat) (h : j ≠ i) : updN g i v j = g j := if_neg h
theorem cell_set_same {w : World} {a i : Nat} {u : Value} (v : Value) (h : w.cell? ⟨a, i, none⟩ = some u) : (w.setCell ⟨a, i, none⟩ v).cell? ⟨a, i, none⟩ = some v := World.cell?_setCell_same _ _ _ h
theorem cell_set_other {w : World} {a i j : Nat} (v : Value) (h : j ≠ i) : (w.setCell ⟨a, i, none⟩ v).cell? ⟨a, j, none⟩ = w.cell? ⟨a, j, none⟩ :=
 World.cell?_setCell_other _ _ _ _ (by intro e; apply h; simp only [Addr.mk.injEq, and_true, true_and] at e; exact e.symm)
section
variable {a : Nat} {g : Nat → Nat} {nd : Nat} {dp : Int} {neg tr : Bool} {w : World}
theorem BD.setD (h : BD a g nd dp neg tr w) (i v : Nat) (hi : i < 800) : BD a (updN g i v) nd dp neg tr (w.setCell ⟨a, i, none⟩ (.int .u8 (v : Int))) := by
 refine ⟨fun j hj => ?_, (cell_set_other _ (by omega)).trans h.cn, (cell_set_other _ (by omega)).trans h.cp, (cell_set_other _ (by omega)).trans h.cg, (cell_set_other _ (by omega)).trans h.ct, fun j => by rw [World.frozen?_setCell]; exact h.fz j, by simpa using h.lt⟩
 by_cases e : j = i
 ·subst e; rw [upd_same]; exact cell_set_same _ (h.cd j hj)
 ·rw [upd_other _ _ e]; exact (cell_set_other _ e).trans (h.cd j hj)
theorem BD.setN (h : BD a g nd dp neg tr w) (n : Nat) : BD a g n dp neg tr (w.setCell ⟨a, 800, none⟩ (.int .i64 (n : Int))) :=
 ⟨fun j hj => (cell_set_other _ (by omega)).trans (h.cd j hj), cell_set_same _ h.cn, (cell_set_other _ (by omega)).trans h.cp, (cell_set_other _ (by omega)).trans h.cg, (cell_set_other _ (by omega)).trans h.ct, fun j => by rw [World.frozen?_setCell]; exact h.fz j, by simpa using h.lt⟩
theorem BD.setP (h : BD a g nd dp neg tr w) (p : Int) : BD a g nd p neg tr (w.setCell ⟨a, 801, none⟩ (.int .i64 p)) :=
 ⟨fun j hj => (cell_set_other _ (by omega)).trans (h.cd j hj), (cell_set_other _ (by omega)).trans h.cn, cell_set_same _ h.cp, (cell_set_other _ (by omega)).trans h.cg, (cell_set_other _ (by omega)).trans h.ct, fun j => by rw [World.frozen?_setCell]; exact h.fz j, by simpa using h.lt⟩
theorem BD.setG (h : BD a g nd dp neg tr w) (b : Bool) : BD a g nd dp b tr (w.setCell ⟨a, 802, none⟩ (.bool b)) :=
 ⟨fun j hj => (cell_set_other _ (by omega)).trans (h.cd j hj), (cell_set_other _ (by omega)).trans h.cn, (cell_set_other _ (by omega)).trans h.cp, cell_set_same _ h.cg, (cell_set_other _ (by omega)).trans h.ct, fun j => by rw [World.frozen?_setCell]; exact h.fz j, by simpa using h.lt⟩
theorem BD.setT (h : BD a g nd dp neg tr w) (b : Bool) : BD a g nd dp neg b (w.setCell ⟨a, 803, none⟩ (.bool b)) :=
 ⟨fun j hj => (cell_set_other _ (by omega)).trans (h.cd j hj), (cell_set_other _ (by omega)).trans h.cn, (cell_set_other _ (by omega)).trans h.cp, (cell_set_other _ (by omega)).trans h.cg, cell_set_same _ h.ct, fun j => by rw [World.frozen?_setCell]; exact h.fz j, by simpa using h.lt⟩
theorem BD.drew (h : BD a g nd dp neg tr w) (n : Nat) : BD a g nd dp neg tr (w.drewN n) := ⟨h.cd, h.cn, h.cp, h.cg, h.ct, h.fz, h.lt⟩
theorem BD.below {w' : World} (h : BD a g nd dp neg tr w) (hb : Below w.heap.size w w') : BD a g nd dp neg tr w' := by
 obtain ⟨c, f⟩ := bcell hb
 exact ⟨fun j hj => (c a j h.lt).trans (h.cd j hj), (c a _ h.lt).trans h.cn, (c a _ h.lt).trans h.cp, (c a _ h.lt).trans h.cg, (c a _ h.lt).trans h.ct, fun j => (f a j h.lt).trans (h.fz j), Nat.lt_of_lt_of_le h.lt hb.size⟩
end
structure Fz (a : Nat) (w w' : World) : Prop where
 fr : Fr a w w'
 size : w'.heap.size = w.heap.size
theorem Fz.refl (a : Nat) (w : World) : Fz a w w := ⟨Fr.refl a w, rfl⟩
theorem Fz.trans {a : Nat} {w1 w2 w3 : World} (h : Fz a w1 w2) (k : Fz a w2 w3) : Fz a w1 w3 := ⟨h.fr.trans k.fr, k.size.trans h.size⟩
theorem Fz.set {a : Nat} {w0 w : World} (h : Fz a w0 w) (o : Nat) (v : Value) : Fz a w0 (w.setCell ⟨a, o, none⟩ v) := ⟨fr_set h.fr, by simpa using h.size⟩
theorem Fz.drew {a : Nat} {w0 w : World} (h : Fz a w0 w) (n : Nat) : Fz a w0 (w.drewN n) := ⟨fr_drew h.fr n, h.size⟩
end Go.Proofs.YtillamhoakohdaaGreatDoor
namespace Go.Proofs.YtillamhoakohdaaGreatDoor
open Go.RowKit
attribute [local go_sem] setCell_drewN

def cellNat (a o : Nat) (w : World) : Nat := (intOf ((w.cell? ⟨a, o, none⟩).getD (.bool false))).toNat
theorem BD.nat {a : Nat} {g : Nat → Nat} {nd : Nat} {dp : Int} {neg tr : Bool} {w : World} (h : BD a g nd dp neg tr w) : cellNat a 800 w = nd := by
 unfold cellNat; rw [h.cn]; rfl
def Trimmed (g : Nat → Nat) (nd : Nat) (dp : Int) (nd' : Nat) (dp' : Int) : Prop :=
 nd' ≤ nd ∧ (∀ i, nd' ≤ i → i < nd → g i = 48) ∧ (nd' = 0 ∨ g (nd' - 1) ≠ 48) ∧ dp' = if nd' = 0 then 0 else dp
def TrimP (a : Nat) (g : Nat → Nat) (nd : Nat) (dp : Int) (neg tr : Bool) (w : World) (e : Ending) (w' : World) : Prop :=
 e = .returned (.tuple #[]) ∧ Fz a w w' ∧ ∃ nd' dp', BD a g nd' dp' neg tr w' ∧ Trimmed g nd dp nd' dp'
set_option maxHeartbeats 4000000 in
theorem trim8_any (a : Nat) (g : Nat → Nat) (nd : Nat) (dp : Int) (neg tr : Bool) (w : World) (hd : BD a g nd dp neg tr w) (hn : nd ≤ 800) :
  Calls Tryz.prog 172 #[.pointer (some ⟨a, 0, none⟩)] w (TrimP a g nd dp neg tr w) := by
 go_enter Tryz.func172, Tryz.ntmps172
 go_upto_region 0 with fail
 go_loopw [] (fun wr => ∃ n, Hid (BD a g n dp neg tr wr) ∧ Hid (Fz a w wr) ∧ n ≤ nd ∧ Hid (∀ i, n ≤ i → i < nd → g i = 48)) (fun wr => cellNat a 800 wr)
 case atStart => exact ⟨nd, Lib.hid hd, Lib.hid (Fz.refl _ _), Nat.le_refl _, Lib.hid (fun i h1 h2 => by omega)⟩
 case round =>
  obtain ⟨n, HD, HF, hnn, HZ⟩ := hrel
  have cn := HD.out.cn
  have fn := HD.out.fz 800
  have fp := HD.out.fz 801
  have cp := HD.out.cp
  rcases Nat.eq_zero_or_pos n with rfl | hpos
  ·clear cn
   have cn : wr.cell? ⟨a, 800, none⟩ = some (.int .i64 0) := HD.out.cn
   go_wp2
   go_quiet (fail)
   go_wp2
   go_end0
   exact ⟨rfl, (HF.out.set _ _).drew _, 0, 0, ((HD.out.setP 0).drew _), by omega, HZ.out, Or.inl rfl, by simp⟩
  ·obtain ⟨m, rfl⟩ : ∃ m, n = m + 1 := ⟨n - 1, by omega⟩
   have hc := HD.out.cd m (by omega)
   have i1 : (0 : Int) < ((m + 1 : Nat) : Int) := by omega
   have i2 : (0 : Int) ≤ ((m + 1 : Nat) : Int) - 1 := by omega
   have i3 : ((m + 1 : Nat) : Int) - 1 < 800 := by omega
   have i4 : (((m + 1 : Nat) : Int) - 1).toNat = m := by omega
   have i5 : ((m + 1 : Nat) : Int) - 1 = m := by omega
   have i6 : (((m + 1 : Nat) : Int) == 0) = false := by rw [beq_eq_false_iff_ne]; omega
   obtain ⟨M, hM⟩ : ∃ M : Nat, M = m + 1 := ⟨_, rfl⟩
   rw [← hM] at cn i1 i2 i3 i4 i5 i6
   have i0 : 0 < M := by omega
   have HM := Lib.hid hM
   clear hM
   by_cases h48 : g m = 48
   ·rw [h48] at hc
    have k1 : ((48 : Nat) : Int) = 48 := rfl
    go_wp2
    go_quiet (fail)
    go_wp2
    go_roundw
    case rel =>
     refine ⟨m, Lib.hid ((HD.out.setN m).drew _), Lib.hid ((HF.out.set _ _).drew _), by omega, Lib.hid fun i h1 h2 => ?_⟩
     rcases Nat.eq_or_lt_of_le h1 with rfl | h3
     ·exact h48
     ·exact HZ.out i h3 h2
    case measure =>
     rw [HD.out.nat]
     have := ((HD.out.setN m).drew 0).nat
     exact Nat.lt_of_le_of_lt (Nat.le_of_eq (((HD.out.setN m).drew _).nat)) (by omega)
   ·have k1 : ((g m : Int) == 48) = false := by rw [beq_eq_false_iff_ne]; omega
    go_wp2
    go_quiet (fail)
    go_wp2
    go_end0
    have e : M = m + 1 := HM
    exact ⟨rfl, HF.out.drew _, m + 1, dp, HD.out.drew _, by omega, HZ.out, Or.inr h48, by simp⟩
end Go.Proofs.YtillamhoakohdaaGreatDoor
