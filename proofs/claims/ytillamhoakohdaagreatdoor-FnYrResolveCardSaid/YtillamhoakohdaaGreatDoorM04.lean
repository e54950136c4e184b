/-
  Common imports and words of the proof of FnYrResolve's card: nothing is claimed here. Words on slices of bytes that a call makes itself: append of one byte, the string of it. Nothing is claimed here. Ground: what the package variables hold when the call begins; new blocks and writes elsewhere leave it so. Walks: texts without low lines.
-/
import Derived.Test.YtillamhoakohdaaGreatDoorProg
import Derived.WalkKit
import Derived.WalkSpells
import Derived.WalkLawsBesides
import Derived.KernelRfl
import Derived.IntWalk
import Derived.Lib.Hide
import Derived.Lib.Strings
import Derived.Lib.IndexBytes
import Derived.Deep.QuietTactic
import Derived.BigQuiet
import Derived.Deep.DeepCutAuto
import Derived.Deep.Light
import Derived.Deep.WholeRow
import Derived.Deep.DeepFit
import Derived.Maps.AppendAt
import Derived.Laws.BytesArg
import Derived.OwnWalk
import GoSem.PinnedTables
import Derived.Test.YtillamhoakohdaaGreatDoorM01
import Derived.Test.YtillamhoakohdaaGreatDoorM03
set_option linter.unusedVariables false
set_option linter.unusedSimpArgs false
namespace Go.Proofs.YtillamhoakohdaaGreatDoor
open Go.RowKit

theorem ret_int {k : IntKind} {a b : Int} (h : a = b) : Ending.returned (.int k a) = .returned (.int k b) := by rw [h]

def StrIs (s : ByteArray) (l : Bs) : Prop := s.data.toList = l
theorem StrIs.size {s : ByteArray} {l : Bs} (h : StrIs s l) : s.size = l.length := by
 unfold StrIs at h; rw [← h, Lib.size_eq]
theorem StrIs.get {s : ByteArray} {l : Bs} (h : StrIs s l) (k : Nat) (hk : k < s.size) : l[k]? = some s[k] := by
 unfold StrIs at h; subst h; rw [List.getElem?_eq_getElem (by simpa using hk)]; rfl
theorem drop_cons (s : ByteArray) (k : Nat) (h : k < s.size) : s.data.toList.drop k = s[k] :: s.data.toList.drop (k + 1) :=
 List.drop_eq_getElem_cons (by simpa using h)
theorem StrIs.drop {s : ByteArray} {l : Bs} (h : StrIs s l) (k : Nat) : StrIs (s.extract k s.size) (l.drop k) := by
 unfold StrIs at *; rw [← h, Lib.extract_to_end]
theorem StrIs.cons {s : ByteArray} {c : UInt8} {l : Bs} (h : StrIs s (c :: l)) : ∃ h0 : 0 < s.size, s[0] = c := by
 have h0 : 0 < s.size := by rw [h.size]; simp
 have := h.get 0 h0
 exact ⟨h0, by simpa using this.symm⟩
theorem StrIs.cons2 {s : ByteArray} {c d : UInt8} {l : Bs} (h : StrIs s (c :: d :: l)) : ∃ (h0 : 0 < s.size) (h1 : 1 < s.size), s[0] = c ∧ s[1] = d := by
 have h1 : 1 < s.size := by rw [h.size]; simp
 have := h.get 1 h1
 obtain ⟨h0, e⟩ := h.cons
 exact ⟨h0, h1, e, by simpa using this.symm⟩
theorem byte_lt (c : UInt8) : (c.toNat : Int) < 256 := by have := c.toNat_lt; omega
theorem setCell_drewN (w : World) (n : Nat) (a : Addr) (v : Value) : (w.drewN n).setCell a v = (w.setCell a v).drewN n := rfl

def Drew (w w' : World) : Prop := ∃ n, w' = w.drewN n
theorem Drew.refl (w : World) : Drew w w := ⟨0, rfl⟩
theorem Drew.below {w w' : World} (h : Drew w w') : Below w.heap.size w w' := by
 obtain ⟨n, rfl⟩ := h
 exact ⟨rfl, rfl, rfl, Nat.le_refl _, fun _ _ => rfl⟩

theorem byte_ne {c d : UInt8} (h : c ≠ d) : ((c.toNat : Int) == (d.toNat : Int)) = false := by
 rw [beq_eq_false_iff_ne]
 intro e
 exact h (UInt8.toNat_inj.1 (by omega))

theorem byte_dec (c d : UInt8) : ((c.toNat : Int) == (d.toNat : Int)) = decide (c = d) := by
 by_cases h : c = d
 ·subst h; simp
 ·rw [byte_ne h]; simp [h]
theorem byte_neq (c d : UInt8) : ((c.toNat : Int) != (d.toNat : Int)) = !decide (c = d) := by
 rw [← byte_dec]; rfl

theorem bcell {W w1 : World} {B : Nat} (hb : Below B W w1) : (∀ b o, b < B → w1.cell? ⟨b, o, none⟩ = W.cell? ⟨b, o, none⟩) ∧ (∀ b o, b < B → w1.frozen? ⟨b, o, none⟩ = W.frozen? ⟨b, o, none⟩) :=
 ⟨fun b o h => hb.cell (p := ⟨b, o, none⟩) h, fun b o h => hb.frozen (p := ⟨b, o, none⟩) h⟩

def vAgg (k : Int) (b : Bool) (i u f : Int) (t : ByteArray) (a0 a1 a2 a3 a4 a5 a6 a7 : Int) : Value :=
 .agg #[.int .i64 k, .bool b, .int .i64 i, .int .u64 u, .int .u64 f, .string t, .int .i64 a0, .int .i64 a1, .int .i64 a2, .int .i64 a3, .int .i64 a4, .int .i64 a5, .int .i64 a6, .int .i64 a7, .slice none 0 0, .slice none 0 0]

theorem info28 : (Tryz.prog.info? 28).map (·.size) = some 16 := by kernel_rfl

def z28 : Array Value := #[.int .i64 0, .bool false, .int .i64 0, .int .u64 0, .int .u64 0, .string ⟨#[]⟩, .int .i64 0, .int .i64 0, .int .i64 0, .int .i64 0, .int .i64 0, .int .i64 0, .int .i64 0, .int .i64 0, .slice none 0 0, .slice none 0 0]

theorem row28_set (w : World) (g : Nat) (cs cs' : Array Value) {t : TypeId} {f : Nat × Nat} (h : w.heap[g]? = some (.cells cs t f)) : (w.setRow g cs').heap[g]? = some (.cells cs' t f) := setRow_heap w g cs cs' t f h

theorem hg_alloc {w : World} {g : Nat} {x o : Obj} (h : w.heap[g]? = some o) : (w.alloc x).heap[g]? = some o := by
 obtain ⟨h1, _⟩ := Array.getElem?_eq_some_iff.1 h
 show (w.heap.push x)[g]? = some o
 rw [Array.getElem?_push, if_neg (Nat.ne_of_lt h1)]; exact h
theorem hg_drewN {w : World} {g n : Nat} {o : Obj} (h : w.heap[g]? = some o) : (w.drewN n).heap[g]? = some o := h
theorem hg_setRow {w : World} {g k : Nat} {cs : Array Value} {o : Obj} (h : w.heap[g]? = some o) (hne : g ≠ k) : (w.setRow k cs).heap[g]? = some o := by
 rw [← h]; simp only [World.setRow]
 rw [Array.getElem?_modify, if_neg (fun e => hne e.symm)]
theorem hg_below {w w1 : World} {B g : Nat} {o : Obj} (hb : Below B w w1) (hg : g < B) (h : w.heap[g]? = some o) : w1.heap[g]? = some o := (hb.block g hg).trans h
theorem below_setRow {B g : Nat} {a w : World} {cs : Array Value} (h : Below B a w) (hg : B ≤ g) : Below B a (w.setRow g cs) :=
 h.trans ⟨rfl, rfl, rfl, by simp, fun k hk => by simp only [World.setRow]; rw [Array.getElem?_modify, if_neg (by omega)]⟩

theorem results_28 {fn : Func} {p u : Tmp} (h : fn.results = #[.cell p 28, .tmp u]) (tmps : Array Value) (w : World) (g : Nat) (t : TypeId) (cs : Array Value) (fr : Nat × Nat)
  (hp : tmps.getD p undef = .pointer (some ⟨g, 0, none⟩)) (hg : w.heap[g]? = some (.cells cs t fr)) (hn : cs.size = 16) :
  (results fn tmps).run Tryz.prog w = .ok (.tuple #[.agg cs, tmps.getD u undef]) w := by
 rw [results_cell_tmp h, hp]
 have h2 := run_loadVar_row (P := Tryz.prog) w g t 28 cs fr _ hg Tryz.underlying28 rfl (by rw [info28, hn])
 simp [asAddr, Result.andThen, h2]

theorem store28 {ops : Array Oper} {rest : List Oper} {o : Oper} {a : Act} {w : World} {Q : Exit → Act → World → Prop} (hgd : o.guard = none) (x y : Operand) (ho : o.op = .store 28 x y)
  (g : Nat) (cells : Array Value) (hx : a.eval x = .pointer (some ⟨g, 0, none⟩)) (hy : a.eval y = .agg cells) (hc : cells.size = 16) (h1 : cells.toList.all (·.oneCell') = true)
  (t : TypeId) (old : Array Value) (hg : w.heap[g]? = some (.cells old t (0, 0))) (hold : old.size = 16)
  (h : wpList Tryz.prog ops Q rest (a.put o.dst undef) (w.setRow g cells)) : wpList Tryz.prog ops Q (o :: rest) a w :=
 wpList_store_row hgd 28 x y ho g cells hx hy t old hg (by rw [info28, hc]) (by rw [hold, hc]) (by rw [← Array.all_toList]; exact h1) h
theorem load28 {ops : Array Oper} {rest : List Oper} {o : Oper} {a : Act} {w : World} {Q : Exit → Act → World → Prop} (hgd : o.guard = none) (x : Operand) (ho : o.op = .load 28 x)
  (g : Nat) (hx : a.eval x = .pointer (some ⟨g, 0, none⟩)) (t : TypeId) (cs : Array Value) (fr : Nat × Nat) (hg : w.heap[g]? = some (.cells cs t fr)) (hc : cs.size = 16)
  (h : wpList Tryz.prog ops Q rest (a.put o.dst (.agg cs)) w) : wpList Tryz.prog ops Q (o :: rest) a w :=
 wpList_load_row hgd 28 x ho g hx t cs fr _ hg Tryz.underlying28 rfl (by rw [info28, hc]) h

inductive VIs : PV → Value → Prop where
 | nul : VIs .nul (vAgg 0 false 0 0 0 ⟨#[]⟩ 0 0 0 0 0 0 0 0)
 | bool (b) : VIs (.bool b) (vAgg 1 b 0 0 0 ⟨#[]⟩ 0 0 0 0 0 0 0 0)
 | int (i) : VIs (.int i) (vAgg 2 false i 0 0 ⟨#[]⟩ 0 0 0 0 0 0 0 0)
 | uint (n) : VIs (.uint n) (vAgg 3 false 0 n 0 ⟨#[]⟩ 0 0 0 0 0 0 0 0)
 | flt (f : Nat) : VIs (.flt f) (vAgg 4 false 0 0 f ⟨#[]⟩ 0 0 0 0 0 0 0 0)
 | txt (s l) (h : StrIs s l) : VIs (.txt l) (vAgg 5 false 0 0 0 s 0 0 0 0 0 0 0 0)
 | tim (a0 a1 a2 a3 a4 a5 a6 a7) : VIs (.tim [a0, a1, a2, a3, a4, a5, a6, a7]) (vAgg 9 false 0 0 0 ⟨#[]⟩ a0 a1 a2 a3 a4 a5 a6 a7)

end Go.Proofs.YtillamhoakohdaaGreatDoor
namespace Go.Proofs.YtillamhoakohdaaGreatDoor
open Go.RowKit

theorem info5 : (Tryz.prog.info? 5).map (fun i => (i.zero, i.size, i.bytes)) = some (some (.int .u8 0), 1, 1) := by kernel_rfl
def u8s (l : Bs) : List Value := l.map fun c => .int .u8 c.toNat
def OwnB (base : Nat) (w : World) (v : Value) (l : Bs) : Prop := w.ownsRow base 5 1 v l.length (u8s l)

theorem OwnB.nil (base : Nat) (w : World) : OwnB base w (.slice none 0 0) [] := World.ownsRow_nil w base 5 1
theorem OwnB.alloc {base : Nat} {w : World} {v : Value} {l : Bs} (h : OwnB base w v l) (o : Obj) : OwnB base (w.alloc o) v l := World.ownsRow.alloc h o
theorem own_base {base : Nat} {w : World} {v : Value} {l : Bs} (h : OwnB base w v l) : ∀ k, v.ownBlock = some k → base ≤ k := fun k hk => (World.ownsRow.lt h k hk).1

theorem append_byte {w0 W : World} {ops : Array Oper} {rest : List Oper} {o : Oper} {a : Act} {Q : Exit → Act → World → Prop} (base : Nat) (hgd : o.guard = none) (s x : Operand)
  (ho : o.op = .call { callee := .builtin .append, args := #[s, x], argTypes := #[60, 60] })
  (v : Value) (l : Bs) (d : UInt8) (hs : a.eval s = v) (hx : a.eval x = .slice (some ⟨W.heap.size, 0, none⟩) 1 1)
  (HO : OwnB base W v l) (HB : Below base w0 W) (hbase : base ≤ W.heap.size) (hl : l.length + 1 ≤ 1000000)
  (h : ∀ v1 w1, OwnB base w1 v1 (l ++ [d]) → Below base w0 w1 → W.grownBy w1 v.ownBlock → wpList Tryz.prog ops Q rest (a.put o.dst v1) w1) :
  wpList Tryz.prog ops Q (o :: rest) a (W.alloc (.cells #[.int .u8 d.toNat] 5)) := by
 obtain ⟨i0, hi, hz0, hz1, hz2⟩ := info_parts info5
 refine wpList_append_own (W.alloc (.cells #[.int .u8 d.toNat] 5)) hgd s x 60 ho base 5 i0 (.int .u8 0) 1 1 Tryz.underlying60 hi hz0 hz1 hz2 rfl (by omega) v l.length (u8s l) hs (World.ownsRow.alloc HO _) ⟨W.heap.size, 0, none⟩ 1 1 [.int .u8 d.toNat] hx rfl
  (cell_one_new W _ 5) (by intro u hu; simp at hu; subst hu; rfl) (by simp only [maxLen]; omega) (by omega) (by simp; omega) ?_
 intro v1 w1 hown hg _
 refine h v1 w1 ?_ ((HB.alloc hbase _).grown hg (by simp; omega) (own_base HO)) ?_
 ·unfold OwnB
  simpa [u8s] using hown
 ·exact ⟨hg.os, hg.tape, hg.output, Nat.le_trans (by simp) hg.size, fun k hk hne => (hg.block k (by simp; omega) hne).trans (Below.heap_alloc _ _ _ hk)⟩

theorem own_str {w : World} {base : Nat} {v : Value} {l : Bs} (h : OwnB base w v l) : ∃ r, StrIs r l ∧ (convert 60 9 v).run Tryz.prog w = .ok (.string r) w := by
 refine ⟨⟨l.toArray⟩, by simp [StrIs], ?_⟩
 rcases h.2 with ⟨rfl, h0⟩ | ⟨g, cap, cur, rfl, _⟩
 ·obtain rfl : l = [] := List.eq_nil_of_length_eq_zero h0
  exact run_convert_bytes_nil w 60 5 Tryz.underlying60 Tryz.underlying5 0 0 9 Tryz.underlying9
 ·have hcs := World.ownsRow.cells (g := g) h rfl
  have := run_convert_bytes_arg (P := Tryz.prog) w 60 5 Tryz.underlying60 Tryz.underlying5 g 0 l.length cap (l.map fun c => (c.toNat : Int)) (by simp) (fun i hi => ?_) 9 Tryz.underlying9
  ·rw [this]
   have e : strOfNums (l.map fun c => (c.toNat : Int)) = ⟨l.toArray⟩ := by
    unfold strOfNums
    have e2 : (l.map fun c => (c.toNat : Int)).map (fun n => UInt8.ofNat n.toNat) = l := by
     rw [List.map_map]
     exact (List.map_congr_left (fun c _ => by simp)).trans (List.map_id' l)
    rw [e2]
   rw [e]
  ·have hc := hcs i (.int .u8 (l.map fun c => (c.toNat : Int))[i]!) (by simp [u8s, List.getElem?_eq_getElem hi, hi])
   have ha : (⟨g, 0, none⟩ : Addr).add i = ⟨g, 0 + i, none⟩ := by unfold Addr.add; split <;> simp_all
   rw [ha] at hc
   rw [hc]
   simp [List.getD, hi]
end Go.Proofs.YtillamhoakohdaaGreatDoor
namespace Go.Proofs.YtillamhoakohdaaGreatDoor
open Go.RowKit

def powtabL : List Int := [1, 3, 6, 9, 13, 16, 19, 23, 26]
def pow10F : List Nat := [4607182418800017408, 4621819117588971520, 4636737291354636288, 4652007308841189376, 4666723172467343360, 4681608360884174848, 4696837146684686336, 4711630319722168320, 4726483295884279808, 4741671816366391296, 4756540486875873280, 4771362005757984768, 4786511204640096256, 4801453603149578240, 4816244402031689728, 4831355200913801216, 4846369599423283200, 4861130398305394688, 4876203697187506176, 4891288408196988160, 4906019910204099648, 4921056587992461136, 4936209963552724370]

structure Glob (w : World) : Prop where
 size : 12 ≤ w.heap.size
 e1 : ∃ t p, w.cell? ⟨1, 0, none⟩ = some (.iface t (.pointer p))
 e2 : ∃ t p, w.cell? ⟨2, 0, none⟩ = some (.iface t (.pointer p))
 opt : w.cell? ⟨4, 0, none⟩ = some (.bool true)
 i0 : w.cell? ⟨5, 0, none⟩ = some (.int .u64 52)
 i1 : w.cell? ⟨5, 1, none⟩ = some (.int .u64 11)
 i2 : w.cell? ⟨5, 2, none⟩ = some (.int .i64 (-1023))
 pt : ∃ b o c, b < w.heap.size ∧ w.cell? ⟨7, 0, none⟩ = some (.slice (some ⟨b, o, none⟩) 9 c) ∧ ∀ i (h : i < powtabL.length), w.cell? ⟨b, o + i, none⟩ = some (.int .i64 powtabL[i])
 p10 : ∃ b o c, b < w.heap.size ∧ w.cell? ⟨8, 0, none⟩ = some (.slice (some ⟨b, o, none⟩) 23 c) ∧ ∀ i (h : i < pow10F.length), w.cell? ⟨b, o + i, none⟩ = some (.float .f64 pow10F[i])
 tab : ∀ i (h : i < Go.Pinned.pow10Rows.length), w.cell? ⟨9, 2 * i, none⟩ = some (.int .u64 (Go.Pinned.pow10Rows[i].1 : Int)) ∧ w.cell? ⟨9, 2 * i + 1, none⟩ = some (.int .u64 (Go.Pinned.pow10Rows[i].2 : Int))
 b3 : ∃ c t, w.heap[3]? = some (.cells c t (0, 0))
 b5 : ∃ c t, w.heap[5]? = some (.cells c t (0, 0))
 lc : ∃ b o c, b < w.heap.size ∧ w.cell? ⟨10, 0, none⟩ = some (.slice (some ⟨b, o, none⟩) 61 c) ∧ ∀ i (h : i < Go.Pinned.cheatRows.length), w.cell? ⟨b, o + 2 * i, none⟩ = some (.int .i64 Go.Pinned.cheatRows[i].1) ∧ ∃ s, w.cell? ⟨b, o + 2 * i + 1, none⟩ = some (.string s) ∧ s.data.toList = Go.Pinned.cheatRows[i].2

theorem Glob.below {w w' : World} (h : Glob w) (hb : Below w.heap.size w w') : Glob w' := by
 have hs := h.size
 have c := (bcell hb).1
 have hz := hb.size
 refine ⟨by omega, ?_, ?_, ?_, ?_, ?_, ?_, ?_, ?_, ?_, ?_, ?_, ?_⟩
 ·obtain ⟨t, p, e⟩ := h.e1; exact ⟨t, p, (c 1 0 (by omega)).trans e⟩
 ·obtain ⟨t, p, e⟩ := h.e2; exact ⟨t, p, (c 2 0 (by omega)).trans e⟩
 ·exact (c 4 0 (by omega)).trans h.opt
 ·exact (c 5 0 (by omega)).trans h.i0
 ·exact (c 5 1 (by omega)).trans h.i1
 ·exact (c 5 2 (by omega)).trans h.i2
 ·obtain ⟨b, o, n, h1, h2, h3⟩ := h.pt
  exact ⟨b, o, n, by omega, (c 7 0 (by omega)).trans h2, fun i hi => (c b _ h1).trans (h3 i hi)⟩
 ·obtain ⟨b, o, n, h1, h2, h3⟩ := h.p10
  exact ⟨b, o, n, by omega, (c 8 0 (by omega)).trans h2, fun i hi => (c b _ h1).trans (h3 i hi)⟩
 ·intro i hi
  exact ⟨(c 9 _ (by omega)).trans (h.tab i hi).1, (c 9 _ (by omega)).trans (h.tab i hi).2⟩
 ·obtain ⟨x, t, e⟩ := h.b3; exact ⟨x, t, (hb.block 3 (by omega)).trans e⟩
 ·obtain ⟨x, t, e⟩ := h.b5; exact ⟨x, t, (hb.block 5 (by omega)).trans e⟩
 ·obtain ⟨b, o, n, h1, h2, h3⟩ := h.lc
  refine ⟨b, o, n, by omega, (c 10 0 (by omega)).trans h2, fun i hi => ⟨(c b _ h1).trans (h3 i hi).1, ?_⟩⟩
  obtain ⟨s, e1, e2⟩ := (h3 i hi).2
  exact ⟨s, (c b _ h1).trans e1, e2⟩
set_option maxRecDepth 100000 in
theorem rows_len : Go.Pinned.pow10Rows.length = 696 := by decide +kernel
set_option maxRecDepth 100000 in
theorem rows_pow : ∀ i : Fin 656, (Go.Pinned.pow10Rows.getD (i.val + 3) (0, 0)).1 = (powT.getD i.val (0, 0, 0, 0)).1 ∧ (Go.Pinned.pow10Rows.getD (i.val + 3) (0, 0)).2 = (powT.getD i.val (0, 0, 0, 0)).2.1 := by decide +kernel
theorem Glob.pow {w : World} (h : Glob w) (i : Nat) (hi : i < 656) : w.cell? ⟨9, 2 * (i + 3), none⟩ = some (.int .u64 ((powT[i]!).1 : Int)) ∧ w.cell? ⟨9, 2 * (i + 3) + 1, none⟩ = some (.int .u64 ((powT[i]!).2.1 : Int)) := by
 have e := rows_pow ⟨i, hi⟩
 have hl := rows_len
 have hl2 := powT_len
 have t := h.tab (i + 3) (by omega)
 rw [List.getD_eq_getElem?_getD, List.getElem?_eq_getElem (show i + 3 < Go.Pinned.pow10Rows.length by omega), List.getD_eq_getElem?_getD, List.getElem?_eq_getElem (show i < powT.length by omega)] at e
 simp only [Option.getD_some] at e
 rw [getElem!_pos powT i (by omega), ← e.1, ← e.2]
 exact t
end Go.Proofs.YtillamhoakohdaaGreatDoor
namespace Go.Proofs.YtillamhoakohdaaGreatDoor
open Go.RowKit

def BarePost (l : Bs) (w : World) (e : Ending) (w' : World) : Prop :=
 Below w.heap.size w w' ∧ ∃ r, StrIs r (bare l) ∧ e = .returned (.string r)

theorem bare_no {c : UInt8} {l : Bs} (h : c = 95) : bare (c :: l) = bare l := by simp [bare, h]
theorem bare_yes {c : UInt8} {l : Bs} (h : c ≠ 95) : bare (c :: l) = c :: bare l := by simp [bare, h]

set_option maxHeartbeats 1000000 in
theorem ylBare_any (s : ByteArray) (l : Bs) (w : World) (hl : StrIs s l) (hs : s.size ≤ 1000) :
  Calls Tryz.prog 28 #[.string s] w (BarePost l w) := by
 unfold StrIs at hl
 subst hl
 go_enter Tryz.func28, Tryz.ntmps28
 go_wp2
 go_loopw [3, 4] (fun v i wr => ∃ (k : Nat) (o : Bs), k ≤ s.size ∧ i = .int .i64 k ∧ Hid (OwnB w.heap.size wr v o) ∧ Hid (o ++ bare (s.data.toList.drop k) = bare s.data.toList) ∧ o.length ≤ k ∧ Hid (Below w.heap.size w wr)) (fun _ i _ => s.size - (intOf i).toNat)
 case atStart => exact ⟨0, [], Nat.zero_le _, rfl, OwnB.nil _ _, rfl, by simp, Below.refl _ _⟩
 case round =>
  obtain ⟨k, o, hk, rfl, HO, H, ho, HB⟩ := hrel
  by_cases hlt : k < s.size
  ·have hdr := Lib.hid (drop_cons s k hlt)
   have hf := byte_neq s[k] 95
   rw [show ((95 : UInt8).toNat : Int) = 95 from rfl] at hf
   by_cases hc : s[k] = 95
   ·rw [show (!decide (s[k] = 95)) = false by simp [hc]] at hf
    have HC := Lib.hid hc
    clear hc
    go_wp2
    go_roundw
    case rel => exact ⟨k + 1, o, by omega, by go_num, HO, Lib.hid (by rw [← H.out, hdr.out, bare_no HC.out]), by omega, HB⟩
    case measure => simp [intOf]; omega
   ·rw [show (!decide (s[k] = 95)) = true by simp [hc]] at hf
    have HC := Lib.hid hc
    clear hc
    go_wp2_with (at_builtin; refine append_byte (w0 := w) w.heap.size rfl (.tmp 15) (.tmp 19) rfl _ o _ rfl rfl HO.out HB.out (HB.out.size) (by omega) ?_)
    intro v1 w1 hown hb1 _
    have HO1 := Lib.hid hown
    have HB1 := Lib.hid hb1
    clear hown hb1
    go_wp2
    go_roundw
    case rel => exact ⟨k + 1, o ++ [s[k]], by omega, by go_num, HO1, Lib.hid (by rw [← H.out, hdr.out, bare_yes HC.out]; simp), by simp; omega, HB1⟩
    case measure => simp [intOf]; omega
  ·obtain ⟨r, hr, hcv⟩ := own_str HO.out
   go_wp2
   go_ret
   refine ⟨HB.out, r, ?_, rfl⟩
   have := H.out
   rw [List.drop_eq_nil_of_le (by have := Lib.size_eq s; omega)] at this
   simp [bare] at this
   rw [this] at hr
   simpa [bare] using hr

set_option maxHeartbeats 1000000 in
theorem zzWithout_any (s : ByteArray) (l : Bs) (w : World) (hl : StrIs s l) (hs : s.size ≤ 1000) :
  Calls Tryz.prog 39 #[.string s, .int .u8 95] w (BarePost l w) := by
 unfold StrIs at hl
 subst hl
 go_enter Tryz.func39, Tryz.ntmps39
 go_wp2
 go_loopw [5, 6] (fun v i wr => ∃ (k : Nat) (o : Bs), k ≤ s.size ∧ i = .int .i64 k ∧ Hid (OwnB w.heap.size wr v o) ∧ Hid (o ++ bare (s.data.toList.drop k) = bare s.data.toList) ∧ o.length ≤ k ∧ Hid (Below w.heap.size w wr)) (fun _ i _ => s.size - (intOf i).toNat)
 case atStart => exact ⟨0, [], Nat.zero_le _, rfl, OwnB.nil _ _, rfl, by simp, Below.refl _ _⟩
 case round =>
  obtain ⟨k, o, hk, rfl, HO, H, ho, HB⟩ := hrel
  by_cases hlt : k < s.size
  ·have hdr := Lib.hid (drop_cons s k hlt)
   have hf := byte_neq s[k] 95
   rw [show ((95 : UInt8).toNat : Int) = 95 from rfl] at hf
   by_cases hc : s[k] = 95
   ·rw [show (!decide (s[k] = 95)) = false by simp [hc]] at hf
    have HC := Lib.hid hc
    clear hc
    go_wp2
    go_roundw
    case rel => exact ⟨k + 1, o, by omega, by go_num, HO, Lib.hid (by rw [← H.out, hdr.out, bare_no HC.out]), by omega, HB⟩
    case measure => simp [intOf]; omega
   ·rw [show (!decide (s[k] = 95)) = true by simp [hc]] at hf
    have HC := Lib.hid hc
    clear hc
    go_wp2_with (at_builtin; refine append_byte (w0 := w) w.heap.size rfl (.tmp 18) (.tmp 22) rfl _ o _ rfl rfl HO.out HB.out (HB.out.size) (by omega) ?_)
    intro v1 w1 hown hb1 _
    have HO1 := Lib.hid hown
    have HB1 := Lib.hid hb1
    clear hown hb1
    go_wp2
    go_roundw
    case rel => exact ⟨k + 1, o ++ [s[k]], by omega, by go_num, HO1, Lib.hid (by rw [← H.out, hdr.out, bare_yes HC.out]; simp), by simp; omega, HB1⟩
    case measure => simp [intOf]; omega
  ·obtain ⟨r, hr, hcv⟩ := own_str HO.out
   go_wp2
   go_ret
   refine ⟨HB.out, r, ?_, rfl⟩
   have := H.out
   rw [List.drop_eq_nil_of_le (by have := Lib.size_eq s; omega)] at this
   simp [bare] at this
   rw [this] at hr
   simpa [bare] using hr
end Go.Proofs.YtillamhoakohdaaGreatDoor
