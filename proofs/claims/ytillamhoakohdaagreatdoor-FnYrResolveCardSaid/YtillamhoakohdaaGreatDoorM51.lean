/-
  What the row's listed variables give: the package variables as the walks want them.
-/
import Derived.Test.YtillamhoakohdaaGreatDoorRows
import Derived.LaidLaws
import Derived.LaidSub
import Derived.LaidMore
import Derived.OpenShut
import Derived.ChangeArms
import Derived.Stop.LaidErr
import Derived.Test.YtillamhoakohdaaGreatDoorM04
set_option linter.unusedVariables false
set_option linter.unusedSimpArgs false
namespace Go.Proofs.YtillamhoakohdaaGreatDoor
open Go Go.RowKit
set_option maxRecDepth 100000

theorem addr_none {w : World} {a : Addr} {v : Value} (h : w.cell? a = some v) : a = ⟨a.block, a.off, none⟩ := by
 obtain ⟨b, o, s⟩ := a
 cases s with
 | none => rfl
 | some x =>
  exfalso
  unfold World.cell? at h
  split at h
  ·simp at h
  ·cases h
theorem cell_lt {w : World} {a : Addr} {v : Value} (h : w.cell? a = some v) : a.block < w.heap.size := by
 unfold World.cell? at h
 split at h
 ·rename_i hh; exact (Array.getElem?_eq_some_iff.1 hh).1
 ·cases h
theorem take1 {α : Type} {l : List α} {i : Nat} {c : α} (h : (l.drop i).take 1 = [c]) : l[i]? = some c := by
 have := congrArg (·[0]?) h
 simpa [List.getElem?_take, List.getElem?_drop] using this

section
variable {W : World} {enc : TypeId × Value → Unit} {sp : Nat → Bool} {m : Nat} {cs : List Value} {p : List MemPlace}

theorem c3 : Tryz.prog.cellsOf 3 = 1 := by kernel_rfl
theorem c9 : Tryz.prog.cellsOf 9 = 1 := by kernel_rfl
theorem c23 : Tryz.prog.cellsOf 23 = 1 := by kernel_rfl
theorem c52 : Tryz.prog.cellsOf 52 = 1 := by kernel_rfl
theorem c105 : Tryz.prog.cellsOf 105 = 1 := by kernel_rfl
theorem c234 : Tryz.prog.cellsOf 234 = 2 := by kernel_rfl
theorem c245 : Tryz.prog.cellsOf 245 = 2 := by kernel_rfl
theorem c159 : Tryz.prog.cellsOf 159 = 1 := by kernel_rfl

theorem int_is {k : IntKind} {t : TypeId} {n : Int} {i : Nat} (ht : Tryz.prog.underlying t = some (.int k)) {x : DataW Unit × List MemPlace}
  (h : DataW.trod enc Tryz.prog W 0 sp false m t ((cs.drop i).take 1) = some x) (hx : x.1 = .lit (.int k n)) : cs[i]? = some (.int k n) := by
 obtain ⟨n', e1, rfl, _⟩ := DataW.trod_int ht h
 cases hx
 exact take1 e1
theorem str_is {t : TypeId} {b : List UInt8} {i : Nat} (ht : Tryz.prog.underlying t = some .string) {x : DataW Unit × List MemPlace}
  (h : DataW.trod enc Tryz.prog W 0 sp false m t ((cs.drop i).take 1) = some x) (hx : x.1 = .lit (.string b)) : ∃ s, cs[i]? = some (.string s) ∧ s.data.toList = b := by
 obtain ⟨s, e1, rfl, _⟩ := DataW.trod_string ht h
 cases hx
 exact ⟨s, take1 e1, rfl⟩
theorem two {α : Type} {x : List (DataW Unit × α)} {a b : DataW Unit} (h : x.map (·.1) = [a, b]) : ∃ x0 x1, x = [x0, x1] ∧ x0.1 = a ∧ x1.1 = b := by
 match x, h with
 | [x0, x1], h => simp at h; exact ⟨x0, x1, rfl, h.1, h.2⟩
theorem pair234 {a b : Int} (h : DataW.trod enc Tryz.prog W 0 sp false m 234 cs = some (.agg [.lit (.int .u64 a), .lit (.int .u64 b)], p)) : cs[0]? = some (.int .u64 a) ∧ cs[1]? = some (.int .u64 b) := by
 obtain ⟨xs, m1, rfl, hx, _, _, hel⟩ := DataW.trod_struct Tryz.underlying234 h
 simp only [Prod.mk.injEq, DataW.agg.injEq] at hx
 obtain ⟨x0, x1, rfl, e0, e1⟩ := two hx.1.symm
 have h0 : DataW.trod enc Tryz.prog W 0 sp false m1 23 ((cs.drop 0).take (Tryz.prog.cellsOf 23)) = some x0 := hel 0 _ rfl
 have h1 : DataW.trod enc Tryz.prog W 0 sp false m1 23 ((cs.drop 1).take (Tryz.prog.cellsOf 23)) = some x1 := hel 1 _ rfl
 rw [c23] at h0 h1
 exact ⟨int_is Tryz.underlying23 h0 e0, int_is Tryz.underlying23 h1 e1⟩
theorem pair245 {a : Int} {b : List UInt8} (h : DataW.trod enc Tryz.prog W 0 sp false m 245 cs = some (.agg [.lit (.int .i64 a), .lit (.string b)], p)) : cs[0]? = some (.int .i64 a) ∧ ∃ s, cs[1]? = some (.string s) ∧ s.data.toList = b := by
 obtain ⟨xs, m1, rfl, hx, _, _, hel⟩ := DataW.trod_struct Tryz.underlying245 h
 simp only [Prod.mk.injEq, DataW.agg.injEq] at hx
 obtain ⟨x0, x1, rfl, e0, e1⟩ := two hx.1.symm
 have h0 : DataW.trod enc Tryz.prog W 0 sp false m1 3 ((cs.drop 0).take (Tryz.prog.cellsOf 3)) = some x0 := hel 0 _ rfl
 have h1 : DataW.trod enc Tryz.prog W 0 sp false m1 9 ((cs.drop 1).take (Tryz.prog.cellsOf 9)) = some x1 := hel 1 _ rfl
 rw [c3] at h0
 rw [c9] at h1
 exact ⟨int_is Tryz.underlying3 h0 e0, str_is Tryz.underlying9 h1 e1⟩
theorem trip203 {a b c : Int} (h : DataW.trod enc Tryz.prog W 0 sp false m 203 cs = some (.agg [.lit (.int .u64 a), .lit (.int .u64 b), .lit (.int .i64 c)], p)) :
  cs[0]? = some (.int .u64 a) ∧ cs[1]? = some (.int .u64 b) ∧ cs[2]? = some (.int .i64 c) := by
 obtain ⟨xs, m1, rfl, hx, _, _, hel⟩ := DataW.trod_struct Tryz.underlying203 h
 simp only [Prod.mk.injEq, DataW.agg.injEq] at hx
 match xs, hx.1, hel with
 | [x0, x1, x2], hx, hel =>
  simp only [List.map_cons, List.map_nil, List.cons.injEq, and_true] at hx
  have h0 : DataW.trod enc Tryz.prog W 0 sp false m1 105 ((cs.drop 0).take (Tryz.prog.cellsOf 105)) = some x0 := hel 0 _ rfl
  have h1 : DataW.trod enc Tryz.prog W 0 sp false m1 105 ((cs.drop 1).take (Tryz.prog.cellsOf 105)) = some x1 := hel 1 _ rfl
  have h2 : DataW.trod enc Tryz.prog W 0 sp false m1 3 ((cs.drop 2).take (Tryz.prog.cellsOf 3)) = some x2 := hel 2 _ rfl
  rw [c105] at h0 h1
  rw [c3] at h2
  exact ⟨int_is Tryz.underlying105 h0 hx.1.symm, int_is Tryz.underlying105 h1 hx.2.1.symm, int_is Tryz.underlying3 h2 hx.2.2.symm⟩
theorem float_is {n : Nat} {q : List MemPlace} {v : Value} (h : DataW.trod enc Tryz.prog W 0 sp false m 52 [v] = some (.lit (.float .f64 n), q)) : v = .float .f64 n := by
 cases m with
 | zero => simp [DataW.trod] at h
 | succ m =>
  cases v <;> simp [DataW.trod, Tryz.underlying52] at h
  obtain ⟨⟨rfl, _⟩, ⟨_, rfl⟩, _⟩ := h
  rfl
end

theorem one_laid {l : List (String × DataW Unit)} {W : World} (h : laidMet Tryz.prog l W) (n : String) (d : DataW Unit) (hf : l.filter (fun x => x.1 == n) = [(n, d)]) {g : Nat} {t : TypeId}
  (hg : Tryz.prog.globalNamed n = some g) (ht : (Tryz.prog.globals[g]?).map (·.type) = some t) :
  laidMet Tryz.prog [(n, d)] W ∧ ∃ cs fuel p, W.var? Tryz.prog n = some cs ∧ DataW.trod (fun _ => ()) Tryz.prog W 0 (fun _ => true) false fuel t cs.toList = some (d, p) ∧ (0 < cs.size → ∃ c t, W.heap[g]? = some (.cells c t (0, 0))) := by
 have h1 := h.filter (fun x => x.1 == n)
 rw [hf] at h1
 refine ⟨h1, ?_⟩
 obtain ⟨ps, ⟨g', t', cs, fuel, p, q, hg', ht', hv, hd, _, rfl⟩, _, hrows⟩ := h1
 obtain rfl := Option.some.inj (hg.symm.trans hg')
 obtain rfl := Option.some.inj (ht.symm.trans ht')
 refine ⟨cs, fuel, p, hv, hd, fun hp => (hrows g 0 ?_).1⟩
 simp [MemPlace.row]
 exact .inl hp
theorem cell_of {W : World} {n : String} {g : Nat} {cs : Array Value} (hg : Tryz.prog.globalNamed n = some g) (hv : W.var? Tryz.prog n = some cs) (i : Nat) : W.cell? ⟨g, i, none⟩ = cs.toList[i]? := by
 rw [World.var?_cell hg hv i]; simp
theorem sized {W : World} {n : String} {g : Nat} {cs : Array Value} (hg : Tryz.prog.globalNamed n = some g) (hv : W.var? Tryz.prog n = some cs) {i : Nat} {v : Value} (h : cs.toList[i]? = some v) : W.cell? ⟨g, i, none⟩ = some v ∧ 0 < cs.size := by
 refine ⟨(cell_of hg hv i).trans h, ?_⟩
 have := (List.getElem?_eq_some_iff.1 h).1
 simp at this; omega
theorem starE : "*" ++ "errors.errorString" = "*errors.errorString" := by decide
theorem row157 (u : TypeId) (h : Tryz.prog.typeName? 3 u = some "*errors.errorString") : u = 157 :=
 typeName_ptr_named (nm := "errors.errorString") (by rw [starE]; kernel_rfl) (by kernel_rfl) (by decide) u (by rw [starE]; exact h)
theorem g1 : Tryz.prog.globalNamed "strconv.ErrSyntax" = some 1 := by kernel_rfl
theorem g2 : Tryz.prog.globalNamed "strconv.ErrRange" = some 2 := by kernel_rfl
theorem g3 : Tryz.prog.globalNamed "internal/strconv.float32info" = some 3 := by kernel_rfl
theorem g4 : Tryz.prog.globalNamed "internal/strconv.optimize" = some 4 := by kernel_rfl
theorem g5 : Tryz.prog.globalNamed "internal/strconv.float64info" = some 5 := by kernel_rfl
theorem g7 : Tryz.prog.globalNamed "internal/strconv.powtab" = some 7 := by kernel_rfl
theorem g8 : Tryz.prog.globalNamed "internal/strconv.float64pow10" = some 8 := by kernel_rfl
theorem g9 : Tryz.prog.globalNamed "internal/strconv.pow10Tab" = some 9 := by kernel_rfl
theorem g10 : Tryz.prog.globalNamed "internal/strconv.leftcheats" = some 10 := by kernel_rfl
theorem gz : Tryz.prog.globalNamed "math/bits.deBruijn64tab" = some 13 := by kernel_rfl
theorem tz : (Tryz.prog.globals[13]?).map (·.type) = some 195 := by kernel_rfl
theorem fz : Rows.fnYrResolveRow.laid.filter (fun x => x.1 == "math/bits.deBruijn64tab") = [("math/bits.deBruijn64tab", Rows.laid_math_bits_deBruijn64tab)] := by kernel_rfl
theorem t1 : (Tryz.prog.globals[1]?).map (·.type) = some 83 := by kernel_rfl
theorem t2 : (Tryz.prog.globals[2]?).map (·.type) = some 83 := by kernel_rfl
theorem t3 : (Tryz.prog.globals[3]?).map (·.type) = some 203 := by kernel_rfl
theorem t4 : (Tryz.prog.globals[4]?).map (·.type) = some 4 := by kernel_rfl
theorem t5 : (Tryz.prog.globals[5]?).map (·.type) = some 203 := by kernel_rfl
theorem t7 : (Tryz.prog.globals[7]?).map (·.type) = some 72 := by kernel_rfl
theorem t8 : (Tryz.prog.globals[8]?).map (·.type) = some 230 := by kernel_rfl
theorem t9 : (Tryz.prog.globals[9]?).map (·.type) = some 235 := by kernel_rfl
theorem t10 : (Tryz.prog.globals[10]?).map (·.type) = some 246 := by kernel_rfl
theorem f1 : Rows.fnYrResolveRow.laid.filter (fun x => x.1 == "strconv.ErrSyntax") = [("strconv.ErrSyntax", Rows.laid_strconv_ErrSyntax)] := by kernel_rfl
theorem f2 : Rows.fnYrResolveRow.laid.filter (fun x => x.1 == "strconv.ErrRange") = [("strconv.ErrRange", Rows.laid_strconv_ErrRange)] := by kernel_rfl
theorem f3 : Rows.fnYrResolveRow.laid.filter (fun x => x.1 == "internal/strconv.float32info") = [("internal/strconv.float32info", Rows.laid_internal_strconv_float32info)] := by kernel_rfl
theorem f4 : Rows.fnYrResolveRow.laid.filter (fun x => x.1 == "internal/strconv.optimize") = [("internal/strconv.optimize", Rows.laid_internal_strconv_optimize)] := by kernel_rfl
theorem f5 : Rows.fnYrResolveRow.laid.filter (fun x => x.1 == "internal/strconv.float64info") = [("internal/strconv.float64info", Rows.laid_internal_strconv_float64info)] := by kernel_rfl
theorem f7 : Rows.fnYrResolveRow.laid.filter (fun x => x.1 == "internal/strconv.powtab") = [("internal/strconv.powtab", Rows.laid_internal_strconv_powtab)] := by kernel_rfl
theorem f8 : Rows.fnYrResolveRow.laid.filter (fun x => x.1 == "internal/strconv.float64pow10") = [("internal/strconv.float64pow10", Rows.laid_internal_strconv_float64pow10)] := by kernel_rfl
theorem f9 : Rows.fnYrResolveRow.laid.filter (fun x => x.1 == "internal/strconv.pow10Tab") = [("internal/strconv.pow10Tab", Rows.laid_internal_strconv_pow10Tab)] := by kernel_rfl
theorem f10 : Rows.fnYrResolveRow.laid.filter (fun x => x.1 == "internal/strconv.leftcheats") = [("internal/strconv.leftcheats", Rows.laid_internal_strconv_leftcheats)] := by kernel_rfl
theorem powtab_list : (Rows.laid_internal_strconv_powtab : DataW Unit) = .slice (powtabL.map fun n => .lit (.int .i64 n)) [] := by kernel_rfl
theorem pow10F_list : (Rows.laid_internal_strconv_float64pow10 : DataW Unit) = .slice (pow10F.map fun n => .lit (.float .f64 n)) [] := by kernel_rfl

theorem var_lt {W : World} {n : String} {g : Nat} {cs : Array Value} (hg : Tryz.prog.globalNamed n = some g) (hv : W.var? Tryz.prog n = some cs) : g < W.heap.size := by
 unfold World.var? at hv
 rw [hg] at hv
 simp only [Option.bind_some] at hv
 split at hv
 ·rename_i hh; exact (Array.getElem?_eq_some_iff.1 hh).1
 ·cases hv
theorem add_at {a : Addr} (ha : a = ⟨a.block, a.off, none⟩) (i : Nat) : a.add i = ⟨a.block, a.off + i, none⟩ := by
 unfold Addr.add
 split
 ·rename_i h; rw [h]; exact ha
 ·rfl
theorem ints_of {W : World} {n : String} {g : Nat} {cs : Array Value} {fuel : Nat} {t : TypeId} {zs : List Int} {p : List MemPlace} (hg : Tryz.prog.globalNamed n = some g) (hv : W.var? Tryz.prog n = some cs) (ht : Tryz.prog.underlying t = some (.slice 3))
  (hz : 0 < zs.length) (h : DataW.trod (fun _ => ()) Tryz.prog W 0 (fun _ => true) false fuel t cs.toList = some (.slice (zs.map fun n => .lit (.int .i64 n)) [], p)) :
  ∃ b o c, b < W.heap.size ∧ W.cell? ⟨g, 0, none⟩ = some (.slice (some ⟨b, o, none⟩) zs.length c) ∧ ∀ i (h : i < zs.length), W.cell? ⟨b, o + i, none⟩ = some (.int .i64 zs[i]) := by
 obtain ⟨a, cap, e, _, hel⟩ := open_row ht c3 h
 have hat : ∀ i (h : i < zs.length), W.cell? (a.add i) = some (.int .i64 zs[i]) := by
  intro i hi
  obtain ⟨v, n, q, hc, hd⟩ := hel i (.lit (.int .i64 zs[i])) (by simp [hi])
  obtain ⟨n', e1, e2, _⟩ := DataW.trod_int Tryz.underlying3 hd
  cases e1
  cases e2
  exact hc
 have h0 := hat 0 hz
 have ha : a = ⟨a.block, a.off, none⟩ := addr_none (a := a) (by simpa [Addr.add] using h0)
 refine ⟨a.block, a.off, cap, cell_lt (a := a) (by simpa [Addr.add] using h0), ?_, ?_⟩
 ·rw [cell_of hg hv 0, e, ← ha]; simp
 ·intro i hi; rw [← add_at ha i]; exact hat i hi
theorem floats_of {W : World} {n : String} {g : Nat} {cs : Array Value} {fuel : Nat} {t : TypeId} {zs : List Nat} {p : List MemPlace} (hg : Tryz.prog.globalNamed n = some g) (hv : W.var? Tryz.prog n = some cs) (ht : Tryz.prog.underlying t = some (.slice 52))
  (hz : 0 < zs.length) (h : DataW.trod (fun _ => ()) Tryz.prog W 0 (fun _ => true) false fuel t cs.toList = some (.slice (zs.map fun n => .lit (.float .f64 n)) [], p)) :
  ∃ b o c, b < W.heap.size ∧ W.cell? ⟨g, 0, none⟩ = some (.slice (some ⟨b, o, none⟩) zs.length c) ∧ ∀ i (h : i < zs.length), W.cell? ⟨b, o + i, none⟩ = some (.float .f64 zs[i]) := by
 obtain ⟨a, cap, e, _, hel⟩ := open_row ht c52 h
 have hat : ∀ i (h : i < zs.length), W.cell? (a.add i) = some (.float .f64 zs[i]) := by
  intro i hi
  obtain ⟨v, n, q, hc, hd⟩ := hel i (.lit (.float .f64 zs[i])) (by simp [hi])
  rw [float_is hd] at hc
  exact hc
 have h0 := hat 0 hz
 have ha : a = ⟨a.block, a.off, none⟩ := addr_none (a := a) (by simpa [Addr.add] using h0)
 refine ⟨a.block, a.off, cap, cell_lt (a := a) (by simpa [Addr.add] using h0), ?_, ?_⟩
 ·rw [cell_of hg hv 0, e, ← ha]; simp
 ·intro i hi; rw [← add_at ha i]; exact hat i hi
theorem two_cells {W : World} {a : Addr} {l : List Value} (h : W.cells? 0 a 2 = some l) : ∃ x y, l = [x, y] ∧ W.cell? (a.add 0) = some x ∧ W.cell? (a.add 1) = some y := by
 unfold World.cells? at h
 rw [if_pos (Nat.zero_le _)] at h
 have e : List.range 2 = [0, 1] := rfl
 rw [e] at h
 simp only [List.mapM_cons, List.mapM_nil, Option.bind_eq_bind, Option.bind_eq_some_iff, Option.pure_def, Option.some.injEq] at h
 obtain ⟨x, hx, _, ⟨y, hy, _, rfl, rfl⟩, rfl⟩ := h
 exact ⟨x, y, rfl, hx, hy⟩
theorem cheats_of {W : World} {n : String} {g : Nat} {cs : Array Value} {fuel : Nat} {zs : List (Nat × List UInt8)} {p : List MemPlace} (hg : Tryz.prog.globalNamed n = some g) (hv : W.var? Tryz.prog n = some cs)
  (hz : 0 < zs.length) (h : DataW.trod (fun _ => ()) Tryz.prog W 0 (fun _ => true) false fuel 246 cs.toList = some (.slice (zs.map fun x => .agg [.lit (.int .i64 x.1), .lit (.string x.2)]) [], p)) :
  ∃ b o c, b < W.heap.size ∧ W.cell? ⟨g, 0, none⟩ = some (.slice (some ⟨b, o, none⟩) zs.length c) ∧ ∀ i (h : i < zs.length), W.cell? ⟨b, o + 2 * i, none⟩ = some (.int .i64 zs[i].1) ∧
   ∃ s, W.cell? ⟨b, o + 2 * i + 1, none⟩ = some (.string s) ∧ s.data.toList = zs[i].2 := by
 rcases DataW.trod_slice Tryz.underlying246 h with ⟨_, hx⟩ | ⟨a, len, cap, elems, rest, m, _, e, hx, _, _, _, hlen, hel, _⟩
 ·simp at hx
 simp only [Prod.mk.injEq, DataW.slice.injEq] at hx
 have hl : len = zs.length := by rw [← hlen]; have := congrArg List.length hx.1.1; simp at this; exact this.symm
 subst hl
 have hat : ∀ i (h : i < zs.length), W.cell? ((a.add (i * 2)).add 0) = some (.int .i64 zs[i].1) ∧ ∃ s, W.cell? ((a.add (i * 2)).add 1) = some (.string s) ∧ s.data.toList = zs[i].2 := by
  intro i hi
  have hE := hel i hi
  rw [c245] at hE
  have hxi : (elems.map (·.1))[i]? = some (.agg [.lit (.int .i64 zs[i].1), .lit (.string zs[i].2)]) := by rw [← hx.1.1]; simp [hi]
  rw [List.getElem?_map] at hxi
  obtain ⟨y, hy, hy1⟩ := Option.map_eq_some_iff.1 hxi
  rw [hy] at hE
  obtain ⟨l, hc, hd⟩ := Option.bind_eq_some_iff.1 hE
  obtain ⟨x0, x1, rfl, k0, k1⟩ := two_cells hc
  obtain ⟨y1, y2⟩ := y
  simp only at hy1
  subst hy1
  obtain ⟨q0, s, q1, q2⟩ := pair245 hd
  simp at q0 q1
  subst q0 q1
  exact ⟨k0, s, k1, q2⟩
 have h0 := (hat 0 hz).1
 have ha : a = ⟨a.block, a.off, none⟩ := addr_none (a := a) (by simpa [Addr.add] using h0)
 refine ⟨a.block, a.off, cap, cell_lt (a := a) (by simpa [Addr.add] using h0), ?_, ?_⟩
 ·rw [cell_of hg hv 0, e, ← ha]; simp
 ·intro i hi
  obtain ⟨q0, s, q1, q2⟩ := hat i hi
  have ea : ∀ j, (a.add (i * 2)).add j = ⟨a.block, a.off + 2 * i + j, none⟩ := by
   intro j
   rw [add_at ha, add_at rfl, Nat.mul_comm]
  rw [ea] at q0 q1
  exact ⟨q0, s, q1, q2⟩
theorem pairs_of {W : World} {n : String} {g : Nat} {cs : Array Value} {fuel : Nat} {zs : List (Nat × Nat)} {p : List MemPlace} (hg : Tryz.prog.globalNamed n = some g) (hv : W.var? Tryz.prog n = some cs) (hz : zs.length = 696)
  (h : DataW.trod (fun _ => ()) Tryz.prog W 0 (fun _ => true) false fuel 235 cs.toList = some (.agg (zs.map fun x => .agg [.lit (.int .u64 x.1), .lit (.int .u64 x.2)]), p)) :
  ∀ i (h : i < zs.length), W.cell? ⟨g, 2 * i, none⟩ = some (.int .u64 (zs[i].1 : Int)) ∧ W.cell? ⟨g, 2 * i + 1, none⟩ = some (.int .u64 (zs[i].2 : Int)) := by
 obtain ⟨xs, m, rfl, hx, _, hl, hel⟩ := DataW.trod_array Tryz.underlying235 h
 simp only [Prod.mk.injEq, DataW.agg.injEq] at hx
 intro i hi
 have hE := hel i (by omega)
 rw [c234] at hE
 have hxi : (xs.map (·.1))[i]? = some (.agg [.lit (.int .u64 (zs[i].1 : Int)), .lit (.int .u64 (zs[i].2 : Int))]) := by rw [← hx.1]; simp [hi]
 rw [List.getElem?_map] at hxi
 obtain ⟨y, hy, hy1⟩ := Option.map_eq_some_iff.1 hxi
 rw [hy] at hE
 obtain ⟨y1, y2⟩ := y
 simp only at hy1
 subst hy1
 obtain ⟨q0, q1⟩ := pair234 hE
 rw [List.getElem?_take, List.getElem?_drop] at q0 q1
 simp only [Nat.reduceLT, if_true] at q0 q1
 refine ⟨?_, ?_⟩
 ·rw [cell_of hg hv, ← q0]; congr 1; omega
 ·rw [cell_of hg hv, ← q1]; congr 1; omega
theorem glob_of_laid {W : World} (h : laidMet Tryz.prog Rows.fnYrResolveRow.laid W) : Glob W := by
 obtain ⟨h1, _⟩ := one_laid h _ _ f1 g1 t1
 obtain ⟨h2, _⟩ := one_laid h _ _ f2 g2 t2
 obtain ⟨_, cs3, fu3, p3, v3, d3, r3⟩ := one_laid h _ _ f3 g3 t3
 obtain ⟨_, cs4, fu4, p4, v4, d4, r4⟩ := one_laid h _ _ f4 g4 t4
 obtain ⟨_, cs5, fu5, p5, v5, d5, r5⟩ := one_laid h _ _ f5 g5 t5
 obtain ⟨_, cs7, fu7, p7, v7, d7, r7⟩ := one_laid h _ _ f7 g7 t7
 obtain ⟨_, cs8, fu8, p8, v8, d8, r8⟩ := one_laid h _ _ f8 g8 t8
 obtain ⟨_, cs9, fu9, p9, v9, d9, r9⟩ := one_laid h _ _ f9 g9 t9
 obtain ⟨_, cs10, fu10, p10, v10, d10, r10⟩ := one_laid h _ _ f10 g10 t10
 obtain ⟨a1, s1, w1, _⟩ := laid_sentinel h1 g1 t1 Tryz.underlying83 row157 Tryz.underlying157 Tryz.underlying159 rfl rfl Tryz.underlying9 c159 c9
 obtain ⟨a2, s2, w2, _⟩ := laid_sentinel h2 g2 t2 Tryz.underlying83 row157 Tryz.underlying157 Tryz.underlying159 rfl rfl Tryz.underlying9 c159 c9
 have e1 : W.cell? ⟨1, 0, none⟩ = some (.iface 157 (.pointer (some a1))) := (cell_of g1 w1 0).trans rfl
 have e2 : W.cell? ⟨2, 0, none⟩ = some (.iface 157 (.pointer (some a2))) := (cell_of g2 w2 0).trans rfl
 obtain ⟨x30, x31, x32⟩ := trip203 d3
 obtain ⟨x50, x51, x52⟩ := trip203 d5
 obtain ⟨b4, y4, z4⟩ := DataW.trod_bool Tryz.underlying4 d4
 have hx4 : b4 = true := by cases z4; rfl
 subst hx4
 rw [powtab_list] at d7
 rw [pow10F_list] at d8
 obtain ⟨_, csz, fuz, pz, vz, _, _⟩ := one_laid h _ _ fz gz tz
 refine ⟨by have := var_lt gz vz; omega, ⟨_, _, e1⟩, ⟨_, _, e2⟩, ?_, ?_, ?_, ?_, ints_of g7 v7 Tryz.underlying72 (by decide) d7, floats_of g8 v8 Tryz.underlying230 (by decide) d8, pairs_of g9 v9 (by kernel_rfl) d9, r3 (sized g3 v3 x30).2, r5 (sized g5 v5 x50).2, cheats_of g10 v10 (by decide +kernel) d10⟩
 ·exact (sized g4 v4 (i := 0) (by rw [y4]; rfl)).1
 ·exact (sized g5 v5 x50).1
 ·exact (sized g5 v5 x51).1
 ·exact (sized g5 v5 x52).1
end Go.Proofs.YtillamhoakohdaaGreatDoor
