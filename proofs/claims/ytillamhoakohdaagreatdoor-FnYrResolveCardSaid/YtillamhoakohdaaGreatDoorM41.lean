/-
  Ground: a scope with jumps forward to its labels; the slow decimal beside the package variables. Nothing is claimed here. Walks: the slow decimal's bits. Walks: the slow decimal's bits: the whole road. Walks: the library's hexadecimal floats: that it comes back with a float.
-/
import Derived.WalkMore
import Derived.LaidEqlPtr
import Derived.Test.YtillamhoakohdaaGreatDoorM20
import Derived.Test.YtillamhoakohdaaGreatDoorM21
import Derived.Test.YtillamhoakohdaaGreatDoorM37
import Derived.Test.YtillamhoakohdaaGreatDoorM39
import Derived.Test.YtillamhoakohdaaGreatDoorM40
set_option linter.unusedVariables false
set_option linter.unusedSimpArgs false
namespace Go.Proofs.YtillamhoakohdaaGreatDoor
open Go.RowKit

def jumpQ (J : Nat → Act → World → Prop) (Q : Exit → Act → World → Prop) : Exit → Act → World → Prop
 | .goto l, a, w => J l a w
 | e, a, w => Q e a w
section
variable {P : Program} {Q : Exit → Act → World → Prop} {J : Nat → Act → World → Prop} {a : Act} {w : World}
@[go_sem] theorem jumpQ_normal : jumpQ J Q .normal a w = Q .normal a w := rfl
@[go_sem] theorem jumpQ_exit (id : Nat) : jumpQ J Q (.exit id) a w = Q (.exit id) a w := rfl
@[go_sem] theorem jumpQ_ret : jumpQ J Q .ret a w = Q .ret a w := rfl
@[go_sem] theorem jumpQ_panic (ch : List PanicEntry) : jumpQ J Q (.panic ch) a w = Q (.panic ch) a w := rfl
theorem wp_scope_go {c : Code} (h : ∀ J : Nat → Act → World → Prop, (∀ l r, findLabel c l = some r → ∀ a w, r.wp P (Exit.noGoto Q) a w → J l a w) → c.wp P (jumpQ J Q) a w) : (Code.scope c).wp P Q a w := by
 intro b k cs
 obtain ⟨e, a₁, w₁, hq, harr⟩ := h (fun l a w => ∃ r, findLabel c l = some r ∧ r.wp P (Exit.noGoto Q) a w) (fun l r hr a w hw => ⟨r, hr, hw⟩) b (.inScope c :: k) cs
 cases e with
 | normal => exact ⟨.normal, a₁, w₁, hq, .head step_scope (Steps.trans harr (.one step_inScope))⟩
 | exit id => exact ⟨.exit id, a₁, w₁, hq, fun k' hk => .head step_scope (harr k' (by simp [exitTo, hk]))⟩
 | goto l =>
  obtain ⟨r, hf, hw⟩ := hq
  have hg : gotoIn l (.inScope c :: k) = some (.code r :: .inScope c :: k) := by simp [gotoIn, hf]
  obtain ⟨e₂, a₂, w₂, hq₂, harr₂⟩ := hw b (.inScope c :: k) cs
  have st : Steps P (lone (b.at a (.code (.scope c) :: k)) cs w) (lone (b.at a₁ (.code r :: .inScope c :: k)) cs w₁) := .head step_scope (harr _ hg)
  cases e₂ with
  | normal => exact ⟨.normal, a₂, w₂, hq₂, Steps.trans st (Steps.trans harr₂ (.one step_inScope))⟩
  | exit id => exact ⟨.exit id, a₂, w₂, hq₂, fun k' hk => Steps.trans st (harr₂ k' (by simp [exitTo, hk]))⟩
  | goto l' => exact hq₂.elim
  | ret => exact ⟨_, a₂, w₂, hq₂, .of_steps st harr₂⟩
  | panic ch => exact ⟨_, a₂, w₂, hq₂, .of_steps st harr₂⟩
  | outgrown => exact ⟨_, a₂, w₂, hq₂, .of_steps st harr₂⟩
 | ret => exact ⟨_, a₁, w₁, hq, .of_steps (.one step_scope) harr⟩
 | panic ch => exact ⟨_, a₁, w₁, hq, .of_steps (.one step_scope) harr⟩
 | outgrown => exact ⟨_, a₁, w₁, hq, .of_steps (.one step_scope) harr⟩
end
structure GW (W0 : World) (a : Nat) (w : World) : Prop where
 gl : Glob W0
 le : W0.heap.size ≤ a
 lt : a < w.heap.size
 be : Below W0.heap.size W0 w
theorem GW.glob {W0 w : World} {a : Nat} (h : GW W0 a w) : Glob w := h.gl.below h.be
theorem GW.fz {W0 w w' : World} {a : Nat} (h : GW W0 a w) (k : Fz a w w') : GW W0 a w' :=
 ⟨h.gl, h.le, by rw [k.size]; exact h.lt, h.be.trans (k.fr.below h.le (by have := h.le; have := h.lt; omega))⟩
theorem GW.i {W0 w : World} {a : Nat} (h : GW W0 a w) : w.cell? ⟨5, 0, none⟩ = some (.int .u64 52) ∧ w.cell? ⟨5, 1, none⟩ = some (.int .u64 11) ∧ w.cell? ⟨5, 2, none⟩ = some (.int .i64 (-1023)) :=
 ⟨h.glob.i0, h.glob.i1, h.glob.i2⟩
def FbIs (g : Nat → Nat) (nd : Nat) (dp : Int) (neg : Bool) (b : Nat) (ov : Bool) : Prop :=
 ∀ d, SameN (dn g nd) (dp - nd) d → (ov = true → ∀ sg, FltIs sg d none) ∧ (ov = false → ∃ r, r < infR ∧ Near (fracA d) (fracB d) r ∧ b = sgnW neg + r)
def FbPost (a : Nat) (g : Nat → Nat) (nd : Nat) (dp : Int) (neg : Bool) (w : World) (e : Ending) (w' : World) : Prop :=
 ∃ (b : Nat) (ov : Bool), e = .returned (.tuple #[.int .u64 b, .bool ov]) ∧ b < 2 ^ 64 ∧ FbIs g nd dp neg b ov ∧ Fz a w w'
theorem i64_and2047 (x : Nat) (hx : x < 2048) : bits .and .i64 (x : Int) 2047 = (x : Int) := by
 have h : ∀ x : Fin 2048, bits .and .i64 ((x.val : Nat) : Int) 2047 = ((x.val : Nat) : Int) := by decide +kernel
 exact h ⟨x, hx⟩
theorem fb_form (m x : Nat) (hm : m < 18446744073709551616) (hx : x < 2048) :
  bits .or .u64 (bits .and .u64 (m : Int) 4503599627370495) (IntKind.u64.wrap (IntKind.u64.wrap (bits .and .i64 (x : Int) 2047) * 4503599627370496)) = ((m % 2 ^ 52 + x * 2 ^ 52 : Nat) : Int) := by
 rw [i64_and2047 x hx, wrapU x (by omega), show ((x : Int) * 4503599627370496) = ((x * 4503599627370496 : Nat) : Int) by omega, wrapU _ (by omega)]
 rw [show ((x * 4503599627370496 : Nat) : Int) = (x : Int) * 4503599627370496 by omega]
 exact fin_bits m x hm (by omega)
theorem fb_neg (r : Nat) (hr : r < 9223372036854775808) : bits .or .u64 (r : Int) 9223372036854775808 = ((2 ^ 63 + r : Nat) : Int) := by
 have := u64_or_nat r 9223372036854775808 (by omega) (by decide)
 rw [show ((9223372036854775808 : Nat) : Int) = 9223372036854775808 from rfl] at this
 rw [this, Nat.or_comm]
 have h := Nat.two_pow_add_eq_or_of_lt (i := 63) (b := r) (by omega) 1
 rw [Nat.mul_one] at h
 rw [show 9223372036854775808 = 2 ^ 63 from rfl, ← h]
theorem fb_b (neg : Bool) (m x : Nat) (hm : m < 18446744073709551616) (hx : x < 2048) :
  (if neg = true then bits .or .u64 (bits .or .u64 (bits .and .u64 (m : Int) 4503599627370495) (IntKind.u64.wrap (IntKind.u64.wrap (bits .and .i64 (x : Int) 2047) * 4503599627370496))) 9223372036854775808
   else bits .or .u64 (bits .and .u64 (m : Int) 4503599627370495) (IntKind.u64.wrap (IntKind.u64.wrap (bits .and .i64 (x : Int) 2047) * 4503599627370496))) = ((sgnW neg + (m % 2 ^ 52 + x * 2 ^ 52) : Nat) : Int) := by
 have h3 : m % 2 ^ 52 < 2 ^ 52 := Nat.mod_lt _ (by decide)
 have h4 : m % 2 ^ 52 + x * 2 ^ 52 < 9223372036854775808 := by
  have e : 2 ^ 52 = 4503599627370496 := by decide
  rw [e] at h3 ⊢; omega
 rw [fb_form m x hm hx]
 cases neg
 ·rw [if_neg (by simp)]; simp [sgnW]
 ·rw [if_pos rfl, fb_neg _ h4]; simp [sgnW]
theorem fb_done {a : Nat} {g : Nat → Nat} {nd : Nat} {dp : Int} {neg : Bool} {w w' : World} {ov : Bool} {v : Int} {m x : Nat} (hm : m < 18446744073709551616) (hx : x < 2048)
  (hv : v = if neg = true then bits .or .u64 (bits .or .u64 (bits .and .u64 (m : Int) 4503599627370495) (IntKind.u64.wrap (IntKind.u64.wrap (bits .and .i64 (x : Int) 2047) * 4503599627370496))) 9223372036854775808
   else bits .or .u64 (bits .and .u64 (m : Int) 4503599627370495) (IntKind.u64.wrap (IntKind.u64.wrap (bits .and .i64 (x : Int) 2047) * 4503599627370496)))
  (hF : FbIs g nd dp neg (sgnW neg + (m % 2 ^ 52 + x * 2 ^ 52)) ov) (hz : Fz a w w') : FbPost a g nd dp neg w (.returned (.tuple #[.int .u64 v, .bool ov])) w' := by
 refine ⟨_, ov, by rw [hv, fb_b neg m x hm hx], ?_, hF, hz⟩
 have h3 : m % 2 ^ 52 < 2 ^ 52 := Nat.mod_lt _ (by decide)
 have h5 : sgnW neg ≤ 9223372036854775808 := by cases neg <;> simp [sgnW]
 have e : 2 ^ 52 = 4503599627370496 := by decide
 have e6 : 2 ^ 64 = 18446744073709551616 := by decide
 rw [e] at h3 ⊢; rw [e6]; omega
theorem fbIs_zero {g : Nat → Nat} {nd : Nat} {dp : Int} (neg : Bool) (h : ∀ d, SameN (dn g nd) (dp - nd) d → Near (fracA d) (fracB d) 0) : FbIs g nd dp neg (sgnW neg + (0 % 2 ^ 52 + 0 * 2 ^ 52)) false :=
 fun d hd => ⟨fun h => (by cases h), fun _ => ⟨0, by decide, h d hd, rfl⟩⟩
end Go.Proofs.YtillamhoakohdaaGreatDoor
namespace Go.Proofs.YtillamhoakohdaaGreatDoor
open Go.RowKit
attribute [local go_sem] setCell_drewN

set_option maxRecDepth 100000 in
set_option maxHeartbeats 4000000 in
theorem fb_zero (W0 : World) (a : Nat) (g : Nat → Nat) (nd : Nat) (dp : Int) (neg : Bool) (w : World) (HG : GW W0 a w) (hd : BD a g nd dp neg false w) (h0 : nd = 0) :
  Calls Tryz.prog 141 #[.pointer (some ⟨a, 0, none⟩), .pointer (some ⟨5, 0, none⟩)] w (FbPost a g nd dp neg w) := by
 subst h0
 have cn := hd.cn
 have cg := hd.cg
 have HFB := Lib.hid (fun (d : Nat × Int) (h : SameN (dn g 0) (dp - (0 : Nat)) d) => slow_zero h rfl)
 obtain ⟨f0, f1, f2⟩ := HG.i
 go_enter Tryz.func141, Tryz.ntmps141
 go_wp2
 apply wp_scope_go
 intro J hJ
 have h0 := hJ 0 _ rfl
 have H0 := Lib.hid h0
 clear h0 hJ
 go_wp2
 go_step3
 show J 0 _ _
 refine H0.out _ _ ?_
 clear H0
 go_wp2
 go_quiet (fail)
 cases neg
 ·go_wp2
  rw [Exit.noGoto_ret]
  go_ret2
  exact fb_done (m := 0) (x := 0) (by omega) (by omega) rfl (fbIs_zero _ HFB.out) (by repeat (first | exact Fz.refl _ _ | apply Fz.drew))
 ·go_wp2
  go_quiet (fail)
  go_wp2
  rw [Exit.noGoto_ret]
  go_ret2
  exact fb_done (m := 0) (x := 0) (by omega) (by omega) rfl (fbIs_zero _ HFB.out) (by repeat (first | exact Fz.refl _ _ | apply Fz.drew))
set_option maxRecDepth 100000 in
set_option maxHeartbeats 4000000 in
theorem fb_low (W0 : World) (a : Nat) (g : Nat → Nat) (nd : Nat) (dp : Int) (neg : Bool) (w : World) (HG : GW W0 a w) (hd : BD a g nd dp neg false w) (hc : Can0 g nd) (hlow : dp < -330) :
  Calls Tryz.prog 141 #[.pointer (some ⟨a, 0, none⟩), .pointer (some ⟨5, 0, none⟩)] w (FbPost a g nd dp neg w) := by
 have cn := hd.cn
 have cg := hd.cg
 have cp := hd.cp
 have hn : ((nd : Int) == 0) = false := by rw [beq_eq_false_iff_ne]; have := hc.pos; omega
 have HFB := Lib.hid (fun (d : Nat × Int) (h : SameN (dn g nd) (dp - nd) d) => slow_small h hc.dig hlow)
 obtain ⟨f0, f1, f2⟩ := HG.i
 go_enter Tryz.func141, Tryz.ntmps141
 go_wp2
 apply wp_scope_go
 intro J hJ
 have h0 := hJ 0 _ rfl
 have H0 := Lib.hid h0
 clear h0 hJ
 go_wp2
 go_step3
 show J 0 _ _
 refine H0.out _ _ ?_
 clear H0
 go_wp2
 go_quiet (fail)
 cases neg
 ·go_wp2
  rw [Exit.noGoto_ret]
  go_ret2
  exact fb_done (m := 0) (x := 0) (by omega) (by omega) rfl (fbIs_zero _ HFB.out) (by repeat (first | exact Fz.refl _ _ | apply Fz.drew))
 ·go_wp2
  go_quiet (fail)
  go_wp2
  rw [Exit.noGoto_ret]
  go_ret2
  exact fb_done (m := 0) (x := 0) (by omega) (by omega) rfl (fbIs_zero _ HFB.out) (by repeat (first | exact Fz.refl _ _ | apply Fz.drew))
set_option maxRecDepth 100000 in
set_option maxHeartbeats 4000000 in
theorem fb_high (W0 : World) (a : Nat) (g : Nat → Nat) (nd : Nat) (dp : Int) (neg : Bool) (w : World) (HG : GW W0 a w) (hd : BD a g nd dp neg false w) (hc : Can0 g nd) (hhigh : 310 < dp) :
  Calls Tryz.prog 141 #[.pointer (some ⟨a, 0, none⟩), .pointer (some ⟨5, 0, none⟩)] w (FbPost a g nd dp neg w) := by
 have cn := hd.cn
 have cg := hd.cg
 have cp := hd.cp
 have hn : ((nd : Int) == 0) = false := by rw [beq_eq_false_iff_ne]; have := hc.pos; omega
 have HFB := Lib.hid (fun (sg : Bool) (d : Nat × Int) (h : SameN (dn g nd) (dp - nd) d) => slow_large sg h hc hhigh)
 obtain ⟨f0, f1, f2⟩ := HG.i
 go_enter Tryz.func141, Tryz.ntmps141
 go_wp2
 apply wp_scope_go
 intro J hJ
 have h1 := hJ 1 _ rfl
 have H1 := Lib.hid h1
 clear h1 hJ
 go_wp2
 go_step3
 show J 1 _ _
 refine H1.out _ _ ?_
 clear H1
 go_wp2
 go_quiet (fail)
 go_wp2
 go_step3
 go_wp2
 go_quiet (fail)
 cases neg
 ·go_wp2
  rw [Exit.noGoto_ret]
  go_ret2
  exact fb_done (m := 0) (x := 2047) (by omega) (by omega) rfl (fun d hd => ⟨fun _ sg => HFB.out sg d hd, fun h => (by cases h)⟩) (by repeat (first | exact Fz.refl _ _ | apply Fz.drew))
 ·go_wp2
  go_quiet (fail)
  go_wp2
  rw [Exit.noGoto_ret]
  go_ret2
  exact fb_done (m := 0) (x := 2047) (by omega) (by omega) rfl (fun d hd => ⟨fun _ sg => HFB.out sg d hd, fun h => (by cases h)⟩) (by repeat (first | exact Fz.refl _ _ | apply Fz.drew))
end Go.Proofs.YtillamhoakohdaaGreatDoor
namespace Go.Proofs.YtillamhoakohdaaGreatDoor
open Go.RowKit
attribute [local go_sem] setCell_drewN

theorem shiftL_I (a : Nat) (g : Nat → Nat) (nd : Nat) (dp : Int) (neg tr : Bool) (w : World) (kk : Int) (HG : Glob w) (hd : BD a g nd dp neg tr w) (hc : Can0 g nd) (k : Nat) (hk : k ≤ 60) (hk1 : 1 ≤ k) (hp1 : -2000 ≤ dp) (hp2 : dp ≤ 2000) (hkk : kk = (k : Int)) :
  Calls Tryz.prog 159 #[.pointer (some ⟨a, 0, none⟩), .int .i64 kk] w (LeftP a k g nd dp neg tr w) := by
 subst hkk; exact shiftL_any a g nd dp neg tr w HG hd hc k hk hk1 hp1 hp2
theorem shiftR_I (a : Nat) (g : Nat → Nat) (nd : Nat) (dp : Int) (neg tr : Bool) (w : World) (kk : Int) (hd : BD a g nd dp neg tr w) (hc : Can0 g nd) (k : Nat) (hk : k ≤ 1200) (hk1 : 1 ≤ k) (hp1 : -700 ≤ dp) (hp2 : dp ≤ 2000) (hkk : kk = -(k : Int)) :
  Calls Tryz.prog 159 #[.pointer (some ⟨a, 0, none⟩), .int .i64 kk] w (RightP a k g nd dp neg tr w) := by
 subst hkk; exact shiftR_any a g nd dp neg tr w hd hc k hk hk1 hp1 hp2
theorem pw_tab : ∀ j : Fin 9, ∃ q : Fin 28, powtabL[j.val] = ((q.val : Nat) : Int) ∧ 1 ≤ q.val ∧ (1 ≤ j.val → 2 ^ q.val ≤ 10 ^ j.val) ∧ (j.val = 0 → q.val = 1) := by decide
theorem pw_at (j : Nat) (hj : j < 9) : ∃ q : Nat, powtabL[j]'(show j < 9 from hj) = (q : Int) ∧ 1 ≤ q ∧ q ≤ 27 ∧ (1 ≤ j → 2 ^ q ≤ 10 ^ j) ∧ (j = 0 → q = 1) := by
 obtain ⟨q, h1, h2, h3, h4⟩ := pw_tab ⟨j, hj⟩
 exact ⟨q.val, h1, h2, by omega, h3, h4⟩
theorem p27 {j : Nat} (h : 9 ≤ j) : 2 ^ 27 ≤ 10 ^ j := Nat.le_trans (by decide) (Nat.pow_le_pow_right (by omega) h)
theorem St1.y {A B T0 : Nat} {g : Nat → Nat} {nd : Nat} {dp : Int} {tr : Bool} {x : Nat} (h : St1 A B T0 g nd dp tr x) : ∃ y0, (x = 0 ∧ y0 = 3669 ∧ 10 ^ y0 ≤ tS g nd dp) ∨ (y0 = 3999 ∧ 10 ^ y0 ≤ tS g nd dp) := by
 rcases h.low with ⟨h0, hl⟩ | hl
 ·exact ⟨3669, Or.inl ⟨h0, rfl, hl⟩⟩
 ·exact ⟨3999, Or.inr ⟨rfl, hl⟩⟩
theorem St1.next2 {A B T0 : Nat} {g : Nat → Nat} {nd : Nat} {dp : Int} {tr : Bool} {x y0 : Nat} (h : St1 A B T0 g nd dp tr x) (hdp : dp ≤ 0) (hy : (x = 0 ∧ y0 = 3669 ∧ 10 ^ y0 ≤ tS g nd dp) ∨ (y0 = 3999 ∧ 10 ^ y0 ≤ tS g nd dp)) : St2 A B x y0 g nd dp tr 0 := by
 rcases hy with ⟨h0, h1, hl⟩ | ⟨h1, hl⟩
 ·exact ⟨h.can, h.x1, Or.inl ⟨h0, h1⟩, h.cmp, by rw [Nat.pow_zero, Nat.one_mul]; exact hl, by omega, fun _ => by omega, h.d1, hdp⟩
 ·exact ⟨h.can, h.x1, Or.inr h1, h.cmp, by rw [Nat.pow_zero, Nat.one_mul]; exact hl, by omega, fun _ => by omega, h.d1, hdp⟩
structure Rdy (A B : Nat) (g : Nat → Nat) (nd : Nat) (dp : Int) (tr : Bool) (E : Int) : Prop where
 fin : ∀ T' tr', Up 53 (tS g nd dp) tr T' tr' → FinAt A (B * 2 ^ (E + 1021).toNat) T' (10 ^ 4000) tr' ∧ A < 2 ^ 54 * (B * 2 ^ (E + 1021).toNat) ∧ ((E + 1021).toNat = 0 ∨ 2 ^ 53 * (B * 2 ^ (E + 1021).toNat) ≤ A)
 over : 1025 ≤ E → 2 ^ 2099 * B ≤ A
set_option exponentiation.threshold 6000 in
theorem St3.rdy {A B L : Nat} {g : Nat → Nat} {nd : Nat} {tr : Bool} {E : Int} (h : St3 A B L g nd tr E) (hE : -1021 ≤ E) : Rdy A B g nd 0 tr E :=
 ⟨fun T' tr' hU => by obtain ⟨h1, h2, h3⟩ := slow_norm h hE hU; exact ⟨h1, h3, Or.inr h2⟩, slow_over h⟩
theorem St3.rdy2 {A B L : Nat} {g g' : Nat → Nat} {nd nd' : Nat} {dp' : Int} {tr tr' : Bool} {E : Int} {n : Nat} (h : St3 A B L g nd tr E) (hn : (n : Int) = -1021 - E) (hn1 : 1 ≤ n) (hD : Down n (tS g nd 0) tr (tS g' nd' dp') tr') : Rdy A B g' nd' dp' tr' (-1021) := by
 refine ⟨fun T1 t1 hU => ?_, fun h => by omega⟩
 have := slow_sub h (by omega) (by rw [show (-1021 - E).toNat = n by omega]; exact hD) hU
 exact ⟨this.1, this.2, Or.inl rfl⟩
set_option exponentiation.threshold 6000 in
theorem Rdy.rung {A B : Nat} {g g' : Nat → Nat} {nd nd' : Nat} {dp dp' : Int} {tr tr' : Bool} {E : Int} (h : Rdy A B g nd dp tr E) (hB : 0 < B) (hc : Can g' nd') (hU : Up 53 (tS g nd dp) tr (tS g' nd' dp') tr') (h0 : 0 ≤ 4000 + dp' - nd') (h1 : -1000 ≤ dp') :
  Near A B ((E + 1021).toNat * 2 ^ 52 + upM g' nd' dp' tr') ∧ upM g' nd' dp' tr' ≤ 2 ^ 53 ∧ ((E + 1021).toNat = 0 ∨ 2 ^ 52 ≤ upM g' nd' dp' tr') ∧ dp' ≤ 16 := by
 obtain ⟨f1, f2, f3⟩ := h.fin _ _ hU
 have hQ : 0 < B * 2 ^ (E + 1021).toNat := Nat.mul_pos hB (Nat.pow_pos (by omega))
 have hr := rne_of f1 hQ (Nat.pow_pos (by omega)) f2
 rw [slow_digits hc h0 h1] at hr
 exact ⟨near_pm hB f3 f2 hr, rne_lt hQ f2 hr, f3.imp_right (fun h => rne_ge hQ h hr), slow_dp hc.toCan0 h0 (slow_top f1 f2)⟩
def Inv (a : Nat) (neg : Bool) (w : World) (g0 : Nat → Nat) (nd0 : Nat) (dp0 : Int) (S : Nat → Nat → Prop) (g : Nat → Nat) (nd : Nat) (dp : Int) (tr : Bool) (wc : World) : Prop :=
 BD a g nd dp neg tr wc ∧ Fz a w wc ∧ ∀ d, SameN (dn g0 nd0) (dp0 - nd0) d → S (fracA d) (fracB d)

set_option exponentiation.threshold 6000 in
set_option maxRecDepth 100000 in
set_option maxHeartbeats 8000000 in
theorem fb_main (W0 : World) (a : Nat) (g : Nat → Nat) (nd : Nat) (dp : Int) (neg : Bool) (w : World) (HG : GW W0 a w) (hd : BD a g nd dp neg false w) (hc : Can0 g nd) (hlow : -330 ≤ dp) (hhigh : dp ≤ 310) :
  Calls Tryz.prog 141 #[.pointer (some ⟨a, 0, none⟩), .pointer (some ⟨5, 0, none⟩)] w (FbPost a g nd dp neg w) := by
 have cn := hd.cn
 have cp := hd.cp
 have hnd := hc.le
 have hn : ((nd : Int) == 0) = false := by rw [beq_eq_false_iff_ne]; have := hc.pos; omega
 have HT : Hid (tS g nd dp < 10 ^ (3999 + 311)) := Lib.hid (Nat.lt_of_lt_of_le (tS_lt hc.dig (by omega)) (pow10_le (by omega)))
 have H1 : Hid (Inv a neg w g nd dp (fun A B => St1 A B (tS g nd dp) g nd dp false 0) g nd dp false w) := Lib.hid ⟨hd, Fz.refl _ _, fun d h => St1.start hc (slow_start h (by omega)) hlow hhigh⟩
 have HGW := Lib.hid HG
 have SELF := Lib.hid (sameN_self (dn g nd) (dp - nd))
 clear HG hc hnd hd
 generalize hT0 : tS g nd dp = T0 at *
 clear hT0
 go_enter Tryz.func141, Tryz.ntmps141
 go_wp2
 apply wp_scope_go
 intro J hJ
 have h0 := hJ 0 _ rfl
 have J0 := Lib.hid h0
 have h1 := hJ 1 _ rfl
 have J1 := Lib.hid h1
 clear h0 h1 hJ
 go_upto_region 10 with fail
 clear cn cp
 go_upto_block 0 with fail
 go_cut [6] from 35 to 60 (fun e wc => ∃ (x nd' : Nat) (g' : Nat → Nat) (dp' : Int) (tr' : Bool), e = .int .i64 (x : Int) ∧ x ≤ 1057 ∧ dp' ≤ 0 ∧ -330 ≤ dp' ∧ Hid (Inv a neg w g nd dp (fun A B => St1 A B T0 g' nd' dp' tr' x) g' nd' dp' tr' wc))
 case first =>
  go_upto_region 11 with fail
  go_loopw [6] (fun e wr => ∃ (x nd' : Nat) (g' : Nat → Nat) (dp' : Int) (tr' : Bool), e = .int .i64 (x : Int) ∧ x ≤ 1057 ∧ dp' ≤ 310 ∧ -330 ≤ dp' ∧ Hid (Inv a neg w g nd dp (fun A B => St1 A B T0 g' nd' dp' tr' x) g' nd' dp' tr' wr)) (fun e _ => 1200 - (intOf e).toNat)
  case atStart => exact ⟨0, nd, g, dp, false, rfl, by omega, hhigh, hlow, H1⟩
  case round =>
   clear H1
   obtain ⟨x, nd', g', dp', tr', rfl, hx, hp1, hp2, H⟩ := hrel
   have cp := H.out.1.cp
   obtain ⟨b7, o7, c7, hb7, gp0, gpc⟩ := (HGW.out.fz H.out.2.1).glob.pt
   have HC := Lib.hid gpc
   clear gpc
   by_cases hpos : 0 < dp'
   ·have hx2 := (H.out.2.2 _ SELF.out).lt HT.out hpos
    have hcan := (H.out.2.2 _ SELF.out).can
    obtain ⟨j, rfl⟩ : ∃ j : Nat, dp' = (j : Int) := ⟨dp'.toNat, by omega⟩
    have HCAN := Lib.hid hcan
    clear hcan
    by_cases h9 : 9 ≤ j
    ·have i9 : (9 : Int) ≤ (j : Int) := by omega
     go_wp2
     go_quiet (fail)
     go_wp2_with fail
     refine (shiftR_I a g' nd' j neg tr' _ _ (H.out.1.drew _) HCAN.out 27 (by omega) (by omega) (by omega) (by omega) rfl).mono ?_
     rintro e' w' ⟨rfl, q1, g2, nd2, dp2, tr2, q2, q3, q4, q5, q6⟩
     have hst := fun d hd => (H.out.2.2 d hd).step hx2 hpos (by omega) (p27 (by omega)) q3.toCan0 q4 q6 q5
     have hd0 := (hst _ SELF.out).2
     have HN : Hid (Inv a neg w g nd dp (fun A B => St1 A B T0 g2 nd2 dp2 tr2 (x + 27)) g2 nd2 dp2 tr2 w') := Lib.hid ⟨q2, (H.out.2.1.drew _).trans q1, fun d hd => (hst d hd).1⟩
     clear hst q1 q2 q3 q4 H
     go_wp2
     go_roundw
     case rel => exact ⟨x + 27, nd2, g2, dp2, tr2, by go_num, by omega, by omega, by omega, HN⟩
     case measure => simp [intOf]; omega
    ·have i9 : (j : Int) < 9 := by omega
     have i0 : (0 : Int) ≤ (j : Int) := by omega
     obtain ⟨q, hq, hq1, hq2, hq3, _⟩ := pw_at j (by omega)
     have hcell := HC.out j (show j < 9 by omega)
     rw [hq] at hcell
     clear hq
     go_wp2
     go_quiet (fail)
     go_wp2
     go_quiet (fail)
     go_wp2_with fail
     refine (shiftR_I a g' nd' j neg tr' _ _ (by repeat (first | exact H.out.1 | apply BD.drew)) HCAN.out q (by omega) (by omega) (by omega) (by omega) rfl).mono ?_
     rintro e' w' ⟨rfl, q1, g2, nd2, dp2, tr2, q2, q3, q4, q5, q6⟩
     have hst := fun d hd => (H.out.2.2 d hd).step hx2 hpos (by omega) (hq3 (by omega)) q3.toCan0 q4 q6 q5
     have hd0 := (hst _ SELF.out).2
     have HN : Hid (Inv a neg w g nd dp (fun A B => St1 A B T0 g2 nd2 dp2 tr2 (x + q)) g2 nd2 dp2 tr2 w') := Lib.hid ⟨q2, (H.out.2.1.trans (by repeat (first | exact Fz.refl _ _ | apply Fz.drew))).trans q1, fun d hd => (hst d hd).1⟩
     clear hst q1 q2 q3 q4 H hq3
     go_wp2
     go_roundw
     case rel => exact ⟨x + q, nd2, g2, dp2, tr2, by go_num, by omega, by omega, by omega, HN⟩
     case measure => simp [intOf]; omega
   ·go_wp2
    go_meet
    case rel => exact ⟨x, nd', g', dp', tr', rfl, hx, by omega, hp2, H⟩
 case rest =>
 obtain ⟨x, nd1, g1, dp1, tr1, rfl, hx, hp1, hp2, HA⟩ := hcut
 obtain ⟨y0, hy⟩ := (HA.out.2.2 _ SELF.out).y
 have H2 : Hid (Inv a neg w g nd dp (fun A B => St2 A B x y0 g1 nd1 dp1 tr1 0) g1 nd1 dp1 tr1 wc) := Lib.hid ⟨HA.out.1, HA.out.2.1, fun d hd => (HA.out.2.2 d hd).next2 hp1 hy⟩
 clear HA hy H1 HT
 go_upto_block 2 with fail
 go_cut [6] from 61 to 102 (fun e wc => ∃ (K nd' : Nat) (g' : Nat → Nat) (tr' : Bool), e = .int .i64 ((x : Int) - (K : Int)) ∧ K ≤ 1127 ∧ Hid (53 ≤ g' 0) ∧ Hid (Inv a neg w g nd dp (fun A B => St2 A B x y0 g' nd' 0 tr' K) g' nd' 0 tr' wc))
 case first =>
  go_upto_region 18 with fail
  go_loopw [6] (fun e wr => ∃ (K nd' : Nat) (g' : Nat → Nat) (dp' : Int) (tr' : Bool), e = .int .i64 ((x : Int) - (K : Int)) ∧ K ≤ 1127 ∧ dp' ≤ 0 ∧ -330 ≤ dp' ∧ Hid (Inv a neg w g nd dp (fun A B => St2 A B x y0 g' nd' dp' tr' K) g' nd' dp' tr' wr)) (fun e _ => (intOf e + 2000).toNat)
  case atStart => exact ⟨0, nd1, g1, dp1, tr1, by go_num, by omega, hp1, hp2, H2⟩
  case round =>
   clear H2 hp1 hp2
   obtain ⟨K, nd', g', dp', tr', rfl, hK, hp1, hp2, H⟩ := hrel
   have cp := H.out.1.cp
   have hKlt := (H.out.2.2 _ SELF.out).lt.1
   obtain ⟨b7, o7, c7, hb7, gp0, gpc⟩ := (HGW.out.fz H.out.2.1).glob.pt
   have HC := Lib.hid gpc
   clear gpc
   have HCAN := Lib.hid (H.out.2.2 _ SELF.out).can
   by_cases hneg : dp' < 0
   ·obtain ⟨j, rfl⟩ : ∃ j : Nat, dp' = -(j : Int) := ⟨(-dp').toNat, by omega⟩
    have hj0 : 1 ≤ j := by omega
    by_cases h9 : 9 ≤ j
    ·have i9 : (9 : Int) ≤ (j : Int) := by omega
     go_wp2
     go_quiet (fail)
     go_wp2_with fail
     refine (shiftL_I a g' nd' _ neg tr' _ _ (HGW.out.fz (H.out.2.1.trans (by repeat (first | exact Fz.refl _ _ | apply Fz.drew)))).glob (by repeat (first | exact H.out.1 | apply BD.drew)) HCAN.out 27 (by omega) (by omega) (by omega) (by omega) rfl).mono ?_
     rintro e' w' ⟨rfl, q1, g2, nd2, dp2, tr2, q2, q3, q4, q5, q6⟩
     have hst := fun d hd => (H.out.2.2 d hd).step (k := 27) (by omega) (Or.inl ⟨by omega, by rw [show (- -(j : Int)).toNat = j by omega]; exact p27 h9⟩) q3.toCan0 q4 q5 q6
     have hd0 := (hst _ SELF.out).d2
     have HN : Hid (Inv a neg w g nd dp (fun A B => St2 A B x y0 g2 nd2 dp2 tr2 (K + 27)) g2 nd2 dp2 tr2 w') := Lib.hid ⟨q2, (H.out.2.1.trans (by repeat (first | exact Fz.refl _ _ | apply Fz.drew))).trans q1, fun d hd => hst d hd⟩
     clear hst q1 q2 q3 q4 H
     go_wp2
     go_roundw
     case rel => exact ⟨K + 27, nd2, g2, dp2, tr2, by go_num, by omega, by omega, by omega, HN⟩
     case measure => simp [intOf]; omega
    ·have i9 : (j : Int) < 9 := by omega
     have i0 : (0 : Int) ≤ (j : Int) := by omega
     obtain ⟨q, hq, hq1, hq2, hq3, _⟩ := pw_at j (by omega)
     have hcell := HC.out j (show j < 9 by omega)
     rw [hq] at hcell
     clear hq
     go_wp2
     go_quiet (fail)
     go_wp2
     go_quiet (fail)
     go_wp2_with fail
     refine (shiftL_I a g' nd' _ neg tr' _ _ (HGW.out.fz (H.out.2.1.trans (by repeat (first | exact Fz.refl _ _ | apply Fz.drew)))).glob (by repeat (first | exact H.out.1 | apply BD.drew)) HCAN.out q (by omega) (by omega) (by omega) (by omega) rfl).mono ?_
     rintro e' w' ⟨rfl, q1, g2, nd2, dp2, tr2, q2, q3, q4, q5, q6⟩
     have hst := fun d hd => (H.out.2.2 d hd).step (k := q) (by omega) (Or.inl ⟨by omega, by rw [show (- -(j : Int)).toNat = j by omega]; exact hq3 hj0⟩) q3.toCan0 q4 q5 q6
     have hd0 := (hst _ SELF.out).d2
     have HN : Hid (Inv a neg w g nd dp (fun A B => St2 A B x y0 g2 nd2 dp2 tr2 (K + q)) g2 nd2 dp2 tr2 w') := Lib.hid ⟨q2, (H.out.2.1.trans (by repeat (first | exact Fz.refl _ _ | apply Fz.drew))).trans q1, fun d hd => hst d hd⟩
     clear hst q1 q2 q3 q4 H
     go_wp2
     go_roundw
     case rel => exact ⟨K + q, nd2, g2, dp2, tr2, by go_num, by omega, by omega, by omega, HN⟩
     case measure => simp [intOf]; omega
   ·obtain rfl : dp' = 0 := by omega
    have hc0 := H.out.1.cd 0 (by omega)
    have hg0 := HCAN.out.dig 0 HCAN.out.pos
    by_cases h5 : g' 0 < 53
    ·have H5 := Lib.hid h5
     have hcell : wr.cell? ⟨b7, o7, none⟩ = some (.int .i64 1) := HC.out 0 (show 0 < 9 by omega)
     have h5i : ((g' 0 : Nat) : Int) < 53 := by omega
     clear h5
     generalize g' 0 = c0 at h5i hc0 hg0
     go_wp2
     go_quiet (fail)
     go_wp2
     go_quiet (fail)
     go_wp2_with fail
     refine (shiftL_I a g' nd' _ neg tr' _ _ (HGW.out.fz (H.out.2.1.trans (by repeat (first | exact Fz.refl _ _ | apply Fz.drew)))).glob (by repeat (first | exact H.out.1 | apply BD.drew)) HCAN.out 1 (by omega) (by omega) (by omega) (by omega) rfl).mono ?_
     rintro e' w' ⟨rfl, q1, g2, nd2, dp2, tr2, q2, q3, q4, q5, q6⟩
     have hst := fun d hd => (H.out.2.2 d hd).step (k := 1) (by omega) (Or.inr ⟨rfl, H5.out, rfl⟩) q3.toCan0 q4 q5 q6
     have hd0 := (hst _ SELF.out).d2
     have HN : Hid (Inv a neg w g nd dp (fun A B => St2 A B x y0 g2 nd2 dp2 tr2 (K + 1)) g2 nd2 dp2 tr2 w') := Lib.hid ⟨q2, (H.out.2.1.trans (by repeat (first | exact Fz.refl _ _ | apply Fz.drew))).trans q1, fun d hd => hst d hd⟩
     clear hst q1 q2 q3 q4 H
     go_wp2
     go_roundw
     case rel => exact ⟨K + 1, nd2, g2, dp2, tr2, by go_num, by omega, by omega, by omega, HN⟩
     case measure => simp [intOf]; omega
    ·have H5 : Hid (53 ≤ g' 0) := Lib.hid (by omega)
     have h5i : (53 : Int) ≤ ((g' 0 : Nat) : Int) := by omega
     clear h5
     generalize g' 0 = c0 at h5i hc0 hg0
     go_wp2
     go_meet
     case rel => exact ⟨K, nd', g', tr', rfl, hK, H5, H⟩
 case rest =>
 clear H2 hp1 hp2
 obtain ⟨K, nd2, g2, tr2, rfl, hK, H5, HB⟩ := hcut
 have H3 : Hid (∀ d, SameN (dn g nd) (dp - nd) d → St3 (fracA d) (fracB d) (1100 - x) g2 nd2 tr2 ((x : Int) - (K : Int))) := Lib.hid fun d hd => (HB.out.2.2 d hd).next H5.out
 have hE1 := (H3.out _ SELF.out).e1
 have hE2 := (H3.out _ SELF.out).e2
 have HC2 := Lib.hid (H3.out _ SELF.out).can
 generalize (x : Int) - (K : Int) = E at *
 clear hK hx H5
 obtain ⟨f0, f1, f2⟩ := (HGW.out.fz HB.out.2.1).i
 go_upto_if 111 with fail
 go_cut [6, 10] from 103 to 125 (fun e _ wc => ∃ (F : Int) (nd3 : Nat) (g3 : Nat → Nat) (dp3 : Int) (tr3 : Bool), e = .int .i64 (F - 1) ∧ -1021 ≤ F ∧ F ≤ 1057 ∧ -300 ≤ dp3 ∧ dp3 ≤ 0 ∧ Hid (Inv a neg w g nd dp (fun A B => Rdy A B g3 nd3 dp3 tr3 F) g3 nd3 dp3 tr3 wc) ∧ Hid (Can0 g3 nd3))
 case first =>
  by_cases hlo : E < -1021
  ·obtain ⟨n, hn⟩ : ∃ n : Nat, (n : Int) = -1021 - E := ⟨(-1021 - E).toNat, by omega⟩
   have HN := Lib.hid hn
   have hn1 : 1 ≤ n := by omega
   have hn2 : n ≤ 110 := by omega
   clear hn
   go_wp2_with fail
   refine (shiftR_I a g2 nd2 0 neg tr2 _ _ HB.out.1 HC2.out n (by omega) hn1 (by omega) (by omega) (by have := HN.out; omega)).mono ?_
   rintro e' w' ⟨rfl, q1, g3, nd3, dp3, tr3, q2, q3, q4, q5, q6⟩
   have hst := fun d hd => (H3.out d hd).rdy2 HN.out hn1 q4
   have HN2 : Hid (Inv a neg w g nd dp (fun A B => Rdy A B g3 nd3 dp3 tr3 (-1021)) g3 nd3 dp3 tr3 w') := Lib.hid ⟨q2, HB.out.2.1.trans q1, fun d hd => hst d hd⟩
   have HC3 : Hid (Can0 g3 nd3) := Lib.hid q3.toCan0
   clear hst q1 q2 q3 q4 HB
   have hn := HN.out
   clear HN
   go_wp2
   go_meet
   case rel => exact ⟨-1021, nd3, g3, dp3, tr3, by go_num, by omega, by omega, by omega, by omega, HN2, HC3⟩
  ·have HN2 : Hid (Inv a neg w g nd dp (fun A B => Rdy A B g2 nd2 0 tr2 E) g2 nd2 0 tr2 wc) := Lib.hid ⟨HB.out.1, HB.out.2.1, fun d hd => (H3.out d hd).rdy (by omega)⟩
   go_wp2
   go_meet
   case rel => exact ⟨E, nd2, g2, 0, tr2, rfl, by omega, by omega, by omega, by omega, HN2, HC2⟩
 case rest =>
 clear f0 f1 f2 H3 HB HC2 hE1 hE2
 obtain ⟨F, nd3, g3, dp3, tr3, rfl, hF1, hF2, hq1, hq2, HR, HC3⟩ := hcut
 obtain ⟨f0, f1, f2⟩ := (HGW.out.fz HR.out.2.1).i
 by_cases hov : 1025 ≤ F
 ·have HFB : Hid (∀ sg d, SameN (dn g nd) (dp - nd) d → FltIs sg d none) := Lib.hid fun sg d hd => flt_none ((HR.out.2.2 d hd).over hov)
  have cg := HR.out.1.cg
  go_wp2
  go_quiet (fail)
  go_wp2
  go_step3
  show J 1 _ _
  refine J1.out _ _ ?_
  clear J1
  go_wp2
  go_quiet (fail)
  go_wp2
  go_step3
  go_wp2
  go_quiet (fail)
  cases neg
  ·go_wp2
   rw [Exit.noGoto_ret]
   go_ret2
   exact fb_done (m := 0) (x := 2047) (by omega) (by omega) rfl (fun d hd => ⟨fun _ sg => HFB.out sg d hd, fun h => (by cases h)⟩) (by repeat (first | exact HR.out.2.1 | apply Fz.drew))
  ·go_wp2
   go_quiet (fail)
   go_wp2
   rw [Exit.noGoto_ret]
   go_ret2
   exact fb_done (m := 0) (x := 2047) (by omega) (by omega) rfl (fun d hd => ⟨fun _ sg => HFB.out sg d hd, fun h => (by cases h)⟩) (by repeat (first | exact HR.out.2.1 | apply Fz.drew))
 ·go_wp2
  go_quiet (fail)
  go_wp2_with fail
  refine (shiftL_I a g3 nd3 dp3 neg tr3 _ _ (HGW.out.fz (HR.out.2.1.trans (by repeat (first | exact Fz.refl _ _ | apply Fz.drew)))).glob (by repeat (first | exact HR.out.1 | apply BD.drew)) HC3.out 53 (by omega) (by omega) (by omega) (by omega) rfl).mono ?_
  rintro e' w' ⟨rfl, q1, g4, nd4, dp4, tr4, q2, q3, q4, q5, q6⟩
  have hle4 := q3.le
  have hrg := fun d hd => (HR.out.2.2 d hd).rung (fracB_pos d) q3 q4 (by omega) (by omega)
  have HF4 : Hid (Fz a w w') := Lib.hid ((HR.out.2.1.trans (by repeat (first | exact Fz.refl _ _ | apply Fz.drew))).trans q1)
  clear f0 f1 f2 HR
  have hs := (hrg _ SELF.out).2
  have cg := q2.cg
  obtain ⟨f0, f1, f2⟩ := (HGW.out.fz HF4.out).i
  generalize hR : upM g4 nd4 dp4 tr4 = R at *
  have HRG := Lib.hid (fun d hd => (hrg d hd).1)
  clear hrg q1 q4
  obtain ⟨hs1, hs2, hs3⟩ := hs
  go_wp2_with fail
  refine (rounded_any a g4 nd4 dp4 neg tr4 w' q2 q3.dig hle4 (by omega) R hR).mono ?_
  rintro e' w'' ⟨rfl, rfl⟩
  clear hR q2 q3
  by_cases hR53 : R = 9007199254740992
  ·by_cases hE3 : 1024 ≤ F
   ·have HFB : Hid (∀ sg d, SameN (dn g nd) (dp - nd) d → FltIs sg d none) := Lib.hid fun sg d hd => by
     have := flt_of_near (neg := sg) (HRG.out d hd)
     rwa [if_neg (r_over hR53 hE3)] at this
    subst hR53
    clear HRG
    go_wp2
    go_quiet (fail)
    go_wp2
    go_step3
    show J 1 _ _
    refine J1.out _ _ ?_
    clear J1
    go_wp2
    go_quiet (fail)
    go_wp2
    go_step3
    go_wp2
    go_quiet (fail)
    cases neg
    ·go_wp2
     rw [Exit.noGoto_ret]
     go_ret2
     exact fb_done (m := 0) (x := 2047) (by omega) (by omega) rfl (fun d hd => ⟨fun _ sg => HFB.out sg d hd, fun h => (by cases h)⟩) (by repeat (first | exact HF4.out | apply Fz.drew))
    ·go_wp2
     go_quiet (fail)
     go_wp2
     rw [Exit.noGoto_ret]
     go_ret2
     exact fb_done (m := 0) (x := 2047) (by omega) (by omega) rfl (fun d hd => ⟨fun _ sg => HFB.out sg d hd, fun h => (by cases h)⟩) (by repeat (first | exact HF4.out | apply Fz.drew))
   ·have hr := r_in hR53 (show F < 1024 by omega) hF1
    have HFB : Hid (FbIs g nd dp neg (sgnW neg + (4503599627370496 % 2 ^ 52 + (F + 1023).toNat * 2 ^ 52)) false) := Lib.hid fun d hd => ⟨fun h => (by cases h), fun _ => ⟨_, hr.2, by
     have := HRG.out d hd
     rwa [hr.1] at this, by rw [show 4503599627370496 % 2 ^ 52 = 0 by decide, Nat.zero_add]⟩⟩
    clear hr HRG hs2
    subst hR53
    go_wp2
    go_quiet (fail)
    go_wp2
    go_step3
    show J 0 _ _
    refine J0.out _ _ ?_
    clear J0 J1
    go_wp2
    go_quiet (fail)
    cases neg
    ·go_wp2
     rw [Exit.noGoto_ret]
     go_ret2
     exact fb_done (m := 4503599627370496) (x := (F + 1023).toNat) (by omega) (by omega) (by rw [show (((F + 1023).toNat : Nat) : Int) = F + 1023 by omega]; rfl) HFB.out (by repeat (first | exact HF4.out | apply Fz.drew))
    ·go_wp2
     go_quiet (fail)
     go_wp2
     rw [Exit.noGoto_ret]
     go_ret2
     exact fb_done (m := 4503599627370496) (x := (F + 1023).toNat) (by omega) (by omega) (by rw [show (((F + 1023).toNat : Nat) : Int) = F + 1023 by omega]; rfl) HFB.out (by repeat (first | exact HF4.out | apply Fz.drew))
  ·have k1 : (((R : Nat) : Int) == 9007199254740992) = false := by rw [beq_eq_false_iff_ne]; omega
   have hRlt : R < 9007199254740992 := by
    have : 2 ^ 53 = 9007199254740992 := by decide
    omega
   have hand := and_bit R (show R < 2 ^ 53 from hRlt)
   by_cases h52 : 4503599627370496 ≤ R
   ·rw [if_pos (show 2 ^ 52 ≤ R from h52)] at hand
    have hr := r_mid (E := F) (show 2 ^ 52 ≤ R from h52) (show R < 2 ^ 53 from hRlt) (by omega) hF1
    have HFB : Hid (FbIs g nd dp neg (sgnW neg + (R % 2 ^ 52 + (F + 1022).toNat * 2 ^ 52)) false) := Lib.hid fun d hd => ⟨fun h => (by cases h), fun _ => ⟨_, hr.2, by
     have := HRG.out d hd
     rwa [hr.1] at this, rfl⟩⟩
    clear hr HRG hs2
    go_wp2
    go_step3
    show J 0 _ _
    refine J0.out _ _ ?_
    clear J0 J1
    go_wp2
    go_quiet (fail)
    cases neg
    ·go_wp2
     rw [Exit.noGoto_ret]
     go_ret2
     exact fb_done (m := R) (x := (F + 1022).toNat) (by omega) (by omega) (by rw [show (((F + 1022).toNat : Nat) : Int) = F - 1 + 1023 by omega]; rfl) HFB.out (by repeat (first | exact HF4.out | apply Fz.drew))
    ·go_wp2
     go_quiet (fail)
     go_wp2
     rw [Exit.noGoto_ret]
     go_ret2
     exact fb_done (m := R) (x := (F + 1022).toNat) (by omega) (by omega) (by rw [show (((F + 1022).toNat : Nat) : Int) = F - 1 + 1023 by omega]; rfl) HFB.out (by repeat (first | exact HF4.out | apply Fz.drew))
   ·rw [if_neg (show ¬ 2 ^ 52 ≤ R from h52)] at hand
    have hF0 : F = -1021 := by
     rcases hs2 with h | h
     ·omega
     ·exact absurd h h52
    have HFB : Hid (FbIs g nd dp neg (sgnW neg + (R % 2 ^ 52 + 0 * 2 ^ 52)) false) := Lib.hid fun d hd => ⟨fun h => (by cases h), fun _ => ⟨R, Nat.lt_of_lt_of_le (Nat.lt_of_not_le h52) (by decide), by
     have := HRG.out d hd
     rw [hF0] at this
     simpa using this, by rw [Nat.zero_mul, Nat.add_zero, Nat.mod_eq_of_lt (show R < 2 ^ 52 from Nat.lt_of_not_le h52)]⟩⟩
    clear HRG hs2
    go_wp2
    go_step3
    show J 0 _ _
    refine J0.out _ _ ?_
    clear J0 J1
    go_wp2
    go_quiet (fail)
    cases neg
    ·go_wp2
     rw [Exit.noGoto_ret]
     go_ret2
     exact fb_done (m := R) (x := 0) (by omega) (by omega) rfl HFB.out (by repeat (first | exact HF4.out | apply Fz.drew))
    ·go_wp2
     go_quiet (fail)
     go_wp2
     rw [Exit.noGoto_ret]
     go_ret2
     exact fb_done (m := R) (x := 0) (by omega) (by omega) rfl HFB.out (by repeat (first | exact HF4.out | apply Fz.drew))
end Go.Proofs.YtillamhoakohdaaGreatDoor
namespace Go.Proofs.YtillamhoakohdaaGreatDoor
open Go.RowKit
attribute [local go_sem] setCell_drewN

def ErrI (err : Value) : Prop := err = .nilIface ∨ err = .iface 175 (.int .i64 1) ∨ err = .iface 175 (.int .i64 2)
theorem size203 : (Tryz.prog.info? 203).map (·.size) = some 3 := by kernel_rfl
theorem flt_other {w : World} (h : Glob w) (W : World) (hw : ∃ n, W = w.drewN n) : (binOp .eql 201 (.pointer (some ⟨5, 0, none⟩)) (.pointer (some ⟨3, 0, none⟩))).run Tryz.prog W = .ok (.bool false) W := by
 obtain ⟨n, rfl⟩ := hw
 obtain ⟨j, hj, hjs⟩ := Option.map_eq_some_iff.1 size203
 obtain ⟨c3, t3, h3⟩ := h.b3
 obtain ⟨c5, t5, h5⟩ := h.b5
 exact run_eql_ptr_other _ Tryz.underlying201 hj (by rw [hjs]; decide) (by simp) (show (w.drewN n).heap[5]? = _ from h5) (show (w.drewN n).heap[3]? = _ from h3)
def FltPost (w : World) (e : Ending) (w' : World) : Prop := Below w.heap.size w w' ∧ ∃ (n : Nat) (err : Value), e = .returned (.tuple #[.float .f64 n, err]) ∧ ErrI err
theorem stick_lt {M : Nat} (h : 1 < M) : stick M < M := by unfold stick; split <;> omega
theorem stick_pow {M k : Nat} (h : M < 2 ^ (k + 1)) (hk : 1 ≤ k) : stick M < 2 ^ k := by
 obtain ⟨i, rfl⟩ : ∃ i, k = i + 1 := ⟨k - 1, by omega⟩
 rw [Nat.pow_succ, Nat.pow_succ] at h
 rw [Nat.pow_succ]
 unfold stick
 split <;> omega
theorem stick_form (M : Nat) (h : M < 18446744073709551616) : bits .or .u64 ((M : Int) / 2) (bits .and .u64 (M : Int) 1) = (stick M : Int) := by
 rw [and1 M h, show ((M : Int) / 2) = ((M / 2 : Nat) : Int) by omega, or_stick M h]
theorem u64v {a b : Int} (h : a = b) : Value.int .u64 a = .int .u64 b := by rw [h]
set_option maxRecDepth 100000 in
set_option maxHeartbeats 8000000 in
theorem hex_any (s : ByteArray) (m : Nat) (e : Int) (neg tr : Bool) (w : World) (HG : Glob w) (hm : m < 18446744073709551616) (he1 : -200000 ≤ e) (he2 : e ≤ 200000) :
  Calls Tryz.prog 135 #[.string s, .pointer (some ⟨5, 0, none⟩), .int .u64 m, .int .i64 e, .bool neg, .bool tr] w (FltPost w) := by
 have HPT := Lib.hid (fun W h => flt_other HG W h)
 have f0 := HG.i0
 have f1 := HG.i1
 have f2 := HG.i2
 clear HG
 go_enter Tryz.func135, Tryz.ntmps135
 go_upto_region 1 with fail
 go_quiet (fail)
 go_upto_region 2 with fail
 generalize hwn : w.drewN nq = w1 at *
 have HB : Hid (Below w.heap.size w w1) := Lib.hid (by rw [← hwn]; exact ⟨rfl, rfl, rfl, Nat.le_refl _, fun _ _ => rfl⟩)
 have g0 : w1.cell? ⟨5, 0, none⟩ = some (.int .u64 52) := by rw [← hwn]; exact f0
 have g1 : w1.cell? ⟨5, 1, none⟩ = some (.int .u64 11) := by rw [← hwn]; exact f1
 have g2 : w1.cell? ⟨5, 2, none⟩ = some (.int .i64 (-1023)) := by rw [← hwn]; exact f2
 have HPW : Hid (∀ n, (binOp .eql 201 (.pointer (some ⟨5, 0, none⟩)) (.pointer (some ⟨3, 0, none⟩))).run Tryz.prog (w1.drewN n) = .ok (.bool false) (w1.drewN n)) := Lib.hid (fun n => HPT.out _ ⟨nq + n, by rw [← hwn, World.drewN_drewN]⟩)
 clear hwn f0 f1 f2 HPT
 go_upto_block 0 with fail
 go_cut [2, 3] from 42 to 57 (fun x y wc => ∃ (M c : Nat), x = .int .u64 (M : Int) ∧ y = .int .i64 (e + 52 - (c : Int)) ∧ M < 18446744073709551616 ∧ c ≤ 60 ∧ w1 = wc)
 case first =>
  go_upto_region 4 with fail
  go_loop [2, 3] (fun x y => ∃ (M c : Nat), x = .int .u64 (M : Int) ∧ y = .int .i64 (e + 52 - (c : Int)) ∧ M < 18446744073709551616 ∧ c ≤ 60 ∧ Hid (c = 0 ∨ 2 ^ c ≤ M)) (fun x _ => 18446744073709551616 - (intOf x).toNat)
  case atStart => exact ⟨m, 0, rfl, by go_num, hm, by omega, Lib.hid (Or.inl rfl)⟩
  case round =>
   obtain ⟨M, c, rfl, rfl, hM, hc, HC⟩ := hrel
   by_cases h0 : M = 0
   ·subst h0
    go_wp2
    go_meet
    case rel => exact ⟨0, c, rfl, rfl, by omega, hc, rfl⟩
   ·have k0 : ((M : Int) != 0) = true := by rw [bne_iff_ne]; omega
    by_cases h54 : M < 18014398509481984
    ·have hz : (M : Int) / 18014398509481984 = 0 := by omega
     have hc2 : c < 54 := by
      rcases HC.out with h | h
      ·omega
      ·have : 2 ^ c < 2 ^ 54 := Nat.lt_of_le_of_lt h h54
       exact (Nat.pow_lt_pow_iff_right (by omega)).1 this
     have HC2 : Hid (c + 1 = 0 ∨ 2 ^ (c + 1) ≤ M * 2) := Lib.hid (by
      right
      rcases HC.out with h | h
      ·subst h; omega
      ·rw [Nat.pow_succ]; omega)
     clear HC
     go_wp2
     go_round
     case rel => exact ⟨M * 2, c + 1, by go_num, by go_num, by omega, by omega, HC2⟩
     case measure => simp [intOf]; omega
    ·have hz : ((M : Int) / 18014398509481984 == 0) = false := by rw [beq_eq_false_iff_ne]; omega
     go_wp2
     go_meet
     case rel => exact ⟨M, c, rfl, rfl, hM, hc, rfl⟩
 case rest =>
 obtain ⟨M1, c1, rfl, rfl, hM1, hc1, rfl⟩ := hcut
 go_upto_if 58 with fail
 go_cut [2] from 58 to 60 (fun x wc => ∃ (M : Nat), x = .int .u64 (M : Int) ∧ M < 18446744073709551616 ∧ w1 = wc)
 case first =>
  cases tr
  ·go_wp2
   go_meet
   case rel => exact ⟨M1, rfl, hM1, rfl⟩
  ·have ho := Lib.hid (or1 M1 hM1)
   go_wp2
   go_meet
   case rel => exact ⟨M1 / 2 * 2 + 1, u64v ho.out, by omega, rfl⟩
 case rest =>
 clear hM1
 obtain ⟨M2, rfl, hM2, rfl⟩ := hcut
 go_upto_block 2 with fail
 go_cut [2, 3] from 61 to 76 (fun x y wc => ∃ (M c : Nat), x = .int .u64 (M : Int) ∧ y = .int .i64 (e + 52 - (c1 : Int) + (c : Int)) ∧ M < 36028797018963968 ∧ c ≤ 60 ∧ w1 = wc)
 case first =>
  go_upto_region 9 with fail
  go_loop [2, 3] (fun x y => ∃ (M c : Nat), x = .int .u64 (M : Int) ∧ y = .int .i64 (e + 52 - (c1 : Int) + (c : Int)) ∧ M < 18446744073709551616 ∧ c ≤ 9 ∧ Hid (M < 2 ^ (64 - c))) (fun x _ => (intOf x).toNat)
  case atStart => exact ⟨M2, 0, rfl, by go_num, hM2, by omega, Lib.hid hM2⟩
  case round =>
   obtain ⟨M, c, rfl, rfl, hM, hc, HC⟩ := hrel
   by_cases h55 : M < 36028797018963968
   ·have hz : (M : Int) / 36028797018963968 = 0 := by omega
    go_wp2
    go_meet
    case rel => exact ⟨M, c, rfl, rfl, h55, by omega, rfl⟩
   ·have hz : ((M : Int) / 36028797018963968 != 0) = true := by rw [bne_iff_ne]; omega
    have ho := Lib.hid (stick_form M hM)
    have hlt := stick_lt (M := M) (by omega)
    have hc2 : c < 9 := by
     have h1 := HC.out
     have : 2 ^ 55 < 2 ^ (64 - c) := Nat.lt_of_le_of_lt (Nat.le_of_not_lt h55) h1
     have := (Nat.pow_lt_pow_iff_right (by omega)).1 this
     omega
    have HC2 : Hid (stick M < 2 ^ (64 - (c + 1))) := Lib.hid (stick_pow (k := 64 - (c + 1)) (by rw [show 64 - (c + 1) + 1 = 64 - c by omega]; exact HC.out) (by omega))
    clear HC
    go_wp2
    go_round
    case rel => exact ⟨stick M, c + 1, u64v ho.out, by go_num, by omega, by omega, HC2⟩
    case measure => simp only [intOf]; rw [ho.out]; omega
 case rest =>
 clear hM2
 obtain ⟨M3, c3, rfl, rfl, hM3, hc3, rfl⟩ := hcut
 have hE1 : -200100 ≤ e + 52 - (c1 : Int) + (c3 : Int) := by omega
 have hE2 : e + 52 - (c1 : Int) + (c3 : Int) ≤ 200200 := by omega
 generalize e + 52 - (c1 : Int) + (c3 : Int) = E3 at *
 clear he1 he2 hc1 hc3
 go_upto_block 4 with fail
 go_cut [2, 3] from 77 to 91 (fun x y wc => ∃ (M : Nat) (E : Int), x = .int .u64 (M : Int) ∧ y = .int .i64 E ∧ M < 36028797018963968 ∧ -200100 ≤ E ∧ E ≤ 200200 ∧ w1 = wc)
 case first =>
  go_upto_region 12 with fail
  go_loop [2, 3] (fun x y => ∃ (M : Nat) (E : Int), x = .int .u64 (M : Int) ∧ y = .int .i64 E ∧ M < 36028797018963968 ∧ -200100 ≤ E ∧ E ≤ 200200) (fun x _ => (intOf x).toNat)
  case atStart => exact ⟨M3, E3, rfl, rfl, hM3, hE1, hE2⟩
  case round =>
   clear hM3 hE1 hE2
   obtain ⟨M, E, rfl, rfl, hM, hE1, hE2⟩ := hrel
   by_cases hgo : 1 < M ∧ E < -1024
   ·obtain ⟨h1, h2⟩ := hgo
    have h1i : (1 : Int) < (M : Int) := by omega
    have ho := Lib.hid (stick_form M (by omega))
    have hlt := stick_lt h1
    go_wp2
    go_round
    case rel => exact ⟨stick M, E + 1, u64v ho.out, rfl, by omega, by omega, by omega⟩
    case measure => simp only [intOf]; rw [ho.out]; omega
   ·by_cases h1 : 1 < M
    ·have h1i : (1 : Int) < (M : Int) := by omega
     have h2 : -1024 ≤ E := by omega
     clear hgo
     go_wp2
     go_meet
     case rel => exact ⟨M, E, rfl, rfl, hM, hE1, hE2, rfl⟩
    ·have h1i : (M : Int) ≤ 1 := by omega
     clear hgo
     go_wp2
     go_meet
     case rel => exact ⟨M, E, rfl, rfl, hM, hE1, hE2, rfl⟩
 case rest =>
 clear hM3 hE1 hE2
 obtain ⟨M, E, rfl, rfl, hM, hE1, hE2, rfl⟩ := hcut
 go_upto_if 103 with fail
 obtain ⟨A, hA⟩ : ∃ A : Nat, (M : Int) / 4 = (A : Int) := ⟨M / 4, by omega⟩
 have hA2 : A < 9007199254740992 := by omega
 rw [hA]
 generalize bits BinOp.or IntKind.u64 (bits BinOp.and IntKind.u64 (M : Int) 3) (bits BinOp.and IntKind.u64 (A : Int) 1) = R at *
 clear hA hM
 go_cut [2, 3] from 102 to 117 (fun x y wc => ∃ (M : Nat) (E : Int), x = .int .u64 (M : Int) ∧ y = .int .i64 E ∧ M < 18446744073709551616 ∧ -200200 ≤ E ∧ E ≤ 200300 ∧ w1 = wc)
 case first =>
  by_cases hR : R = 3
  ·subst hR
   by_cases hA3 : A = 9007199254740991
   ·subst hA3
    go_wp2
    go_meet
    case rel => exact ⟨4503599627370496, _, rfl, rfl, by omega, by omega, by omega, rfl⟩
   ·have k1 : ((A : Int) + 1 == 9007199254740992) = false := by rw [beq_eq_false_iff_ne]; omega
    go_wp2
    go_meet
    case rel => exact ⟨A + 1, _, by go_num, rfl, by omega, by omega, by omega, rfl⟩
  ·have k1 : (R == 3) = false := by rw [beq_eq_false_iff_ne]; exact hR
   go_wp2
   go_meet
   case rel => exact ⟨A, _, rfl, rfl, by omega, by omega, by omega, rfl⟩
 case rest =>
 clear hE1 hE2 hA2
 obtain ⟨M5, E5, rfl, rfl, hM5, hE1, hE2, rfl⟩ := hcut
 go_upto_if 124 with fail
 go_cut [3] from 118 to 128 (fun y wc => ∃ (E : Int), y = .int .i64 E ∧ -200200 ≤ E ∧ E ≤ 200300 ∧ w1 = wc)
 case first =>
  by_cases hz : (M5 : Int) / 4503599627370496 = 0
  ·go_wp2
   go_meet
   case rel => exact ⟨-1023, rfl, by omega, by omega, rfl⟩
  ·have k1 : ((M5 : Int) / 4503599627370496 == 0) = false := by rw [beq_eq_false_iff_ne]; exact hz
   go_wp2
   go_meet
   case rel => exact ⟨E5, rfl, by omega, by omega, rfl⟩
 case rest =>
 clear hE1 hE2
 obtain ⟨E6, rfl, hE1, hE2, rfl⟩ := hcut
 go_upto_if 131 with fail
 go_cut [2, 3, 17] from 129 to 139 (fun x y z wc => ∃ (M : Nat) (E : Int), x = .int .u64 (M : Int) ∧ y = .int .i64 E ∧ M < 18446744073709551616 ∧ -200200 ≤ E ∧ E ≤ 200300 ∧ ErrI z ∧ w1 = wc)
 case first =>
  by_cases hz : 1023 < E6
  ·go_wp2
   go_meet
   case rel => exact ⟨4503599627370496, 1024, rfl, rfl, by omega, by omega, by omega, Or.inr (Or.inl rfl), rfl⟩
  ·go_wp2
   go_meet
   case rel => exact ⟨M5, E6, rfl, rfl, hM5, by omega, by omega, Or.inl rfl, rfl⟩
 case rest =>
 clear hE1 hE2 hM5
 obtain ⟨M7, E7, rfl, rfl, hM7, hE1, hE2, herr, rfl⟩ := hcut
 have HERR := Lib.hid herr
 clear herr
 go_wp2
 go_quiet (fail)
 cases neg
 ·have hpt := HPW.out nq
  go_wp2
  go_ret2
  exact ⟨HB.out.trans ⟨rfl, rfl, rfl, Nat.le_refl _, fun _ _ => rfl⟩, _, _, rfl, HERR.out⟩
 ·go_wp2
  go_quiet (fail)
  have hpt := fun n => HPW.out n
  go_wp2
  go_ret2
  exact ⟨HB.out.trans ⟨rfl, rfl, rfl, Nat.le_refl _, fun _ _ => rfl⟩, _, _, rfl, HERR.out⟩
end Go.Proofs.YtillamhoakohdaaGreatDoor
