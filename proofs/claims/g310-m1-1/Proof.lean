import JvmDerived
import JvmDerived.Pilot.@@N@@Statement
import JvmDerived.Pilot.@@N@@Code
@@BLOCK:NumsL.lean.txt@@
set_option linter.unusedVariables false
set_option linter.unusedSimpArgs false
namespace Jvm.RoadKit
open Sem ClassFile Op Lib Jvm.Stand Jvm.Free Jvm.LawKit
section New
variable {p : Program} {l : Launch} {e : Env} {R : Room} {s : State} {m : MethodId} {args : Array Value} {below : List Frame} {meth : Method} {c : Code} {T : State} {locs : List Loc} {cells slots : Nat}
theorem retI (X : Stand p l e R s m args below meth c T locs cells slots) (hx : p.tables.exec = Jvm.exec) {pc : Nat} {Ls : Array Slot} {z : Int32} {rest : List Value} (hret : meth.sig.returnType = some .int) (hd : decode c.code pc = .ok (.ireturn, 1)) {fs : List Frame}
    (hl : ∀ (f : JFrame) (acts : List Action), f.method = m → f.locked = none → f.entered = [] → (doReturn e (T.setTop f) acts (some (.int z))).1 = T.setFrames fs) : Steps p.tables e below (T.setTop (mkF m pc Ls (.int z :: rest))) (T.setFrames fs) := by
  have hm' : T.vm.method? m = some meth := X.method'
  have hn : narrow .int (.int z) = .int z := rfl
  show Steps p.tables e below (T.setTop { method := m, pc := pc, locals := Ls, stack := _ :: rest, locked := none }) _
  jvm_step X.here [X.here.top, hx, hd, hm', hret, hn]
  first | (intro acts; rw [hl _ acts rfl rfl rfl]) | rw [hl _ _ rfl rfl rfl]
  exact Steps.refl _
theorem own_retD (X : Stand p l e R s m args below meth c T locs cells slots) (hx : p.tables.exec = Jvm.exec) {pc : Nat} {Ls : Array Slot} {z : UInt64} {rest : List Value} (hret : meth.sig.returnType = some .double) (hd : decode c.code pc = .ok (.dreturn, 1)) {fs : List Frame}
    (hl : ∀ (f : JFrame) (acts : List Action), f.method = m → f.locked = none → f.entered = [] → (doReturn e (T.setTop f) acts (some (.double z))).1 = T.setFrames fs) : Steps p.tables e below (T.setTop (mkF m pc Ls (.double z :: rest))) (T.setFrames fs) := by
  have hm' : T.vm.method? m = some meth := X.method'
  have hn : narrow .double (.double z) = .double z := rfl
  show Steps p.tables e below (T.setTop { method := m, pc := pc, locals := Ls, stack := _ :: rest, locked := none }) _
  jvm_step X.here [X.here.top, hx, hd, hm', hret, hn]
  first | (intro acts; rw [hl _ acts rfl rfl rfl]) | rw [hl _ _ rfl rfl rfl]
  exact Steps.refl _
theorem own_mvM {Z s : State} {a0 args : Array Value} {own host : String} {y : MethodName} {index : Nat} (hZ : Z.Warmed39 s.vm) (w : (Cond.methodLinkNest own index y host).before a0 Z = true) : (Cond.methodLinkNest own index y host).before args s = true := (Cond.methodLinkNest_wide hZ w :)
end New
end Jvm.RoadKit
namespace Jvm.Pilot.@@N@@
open Jvm Jvm.ClassFile Sem Op Lib Jvm.Free Jvm.Stand Jvm.LawKit Jvm.RoadKit Bundle Jvm.Free.Fl Jvm.Pilot.@@N@@.Jvm.D
/-! my own laws on doubles: a result is a rounding of its exact value (monotone), exactness, the order -/
section OwnFloat
open Jvm.FP Jvm.FP.Core
/-- the value in units of 2^-1074 -/
def own_zv (a : UInt64) : Int := Core.zval Core.b64 (Core.val64 a)
abbrev own_U : Int := (Core.one64 : Int)
theorem own_U_pos : 0 < own_U := Int.natCast_pos.mpr Core.one64_pos
/-- r is N / D, rounded, as far as the order goes -/
def own_rnd (N D : Int) (r : UInt64) : Prop :=
  Core.val64 r ≠ .nan ∧ (∀ V, Core.val64 V ≠ .nan → own_zv V * D ≤ N → own_zv V ≤ own_zv r) ∧ (∀ V, Core.val64 V ≠ .nan → N ≤ own_zv V * D → own_zv r ≤ own_zv V)
theorem own_fin_ne {a : UInt64} (h : Core.DFin a) : Core.val64 a ≠ .nan := h.ne_nan
theorem own_pow0 : (2 : Nat) ^ (Core.b64.qmin - Core.b64.qmin).toNat = 1 := by rw [Int.sub_self]; rfl
theorem own_rnd_of_round {x : UInt64} {sg : Bool} {n : Nat} {e e0 : Int} (hx : Core.val64 x = Core.round Core.b64 (.fin sg n e)) (h0 : e0 ≤ Core.b64.qmin) (h0e : e0 ≤ e) :
    own_rnd (Core.signed sg (Core.inUnits n e e0)) (((2 ^ (Core.b64.qmin - e0).toNat : Nat) : Int)) x := by
  refine ⟨?_, fun V hV h => ?_, fun V hV h => ?_⟩
  · rw [hx]; intro q; have := Core.round_nan.mp q; cases this
  · have := Core.zval_round_ge Core.good_b64 (s := sg) (c := n) (q := e) (e0 := e0) (V := Core.val64 V) (Core.val64_fits V) hV h0 h0e h
    unfold own_zv; rw [hx]; exact this
  · have := Core.zval_round_le Core.good_b64 (s := sg) (c := n) (q := e) (e0 := e0) (V := Core.val64 V) (Core.val64_fits V) hV h0 h0e h
    unfold own_zv; rw [hx]; exact this
theorem own_dadd_rnd {a b : UInt64} (ha : Core.DFin a) (hb : Core.DFin b) : own_rnd (own_zv a + own_zv b) 1 (FP.dadd a b) := by
  obtain ⟨s, c, q, ea⟩ := ha
  obtain ⟨t, d, r, eb⟩ := hb
  have fa := Core.val64_fits a; have fb := Core.val64_fits b
  rw [ea] at fa; rw [eb] at fb
  obtain ⟨sg, n, e, h1, h2, h3⟩ := Core.sum_units fa fb
  have hv : Core.val64 (FP.dadd a b) = Core.round Core.b64 (.fin sg n e) := by
    show Core.val64 (Core.dadd a b) = _
    rw [Core.val64_dadd, ea, eb, h1]
  have := own_rnd_of_round hv (Int.le_refl _) h2
  rw [h3, own_pow0] at this
  unfold own_zv; rw [ea, eb]; exact this
theorem own_zv_dneg (a : UInt64) : own_zv (Core.dneg a) = -own_zv a := by
  unfold own_zv; rw [Core.val64_dneg, Core.zval_negate]
theorem own_fin_dneg {a : UInt64} (ha : Core.DFin a) : Core.DFin (Core.dneg a) := by
  obtain ⟨s, c, q, ea⟩ := ha
  exact ⟨!s, c, q, by rw [Core.val64_dneg, ea]; rfl⟩
theorem own_dneg_zv {a : UInt64} (ha : Core.DFin a) : Core.DFin (FP.dneg a) ∧ own_zv (FP.dneg a) = -own_zv a := by
  rw [FP.dneg_core ha.notNaN]; exact ⟨own_fin_dneg ha, own_zv_dneg a⟩
theorem own_dsub_rnd {a b : UInt64} (ha : Core.DFin a) (hb : Core.DFin b) : own_rnd (own_zv a - own_zv b) 1 (FP.dsub a b) := by
  have h := own_dadd_rnd ha (own_fin_dneg hb)
  rw [own_zv_dneg] at h
  have e : FP.dsub a b = FP.dadd a (Core.dneg b) := Core.dsub_eq a b
  rw [e, Int.sub_eq_add_neg]; exact h
theorem own_dmul_rnd {a b : UInt64} (ha : Core.DFin a) (hb : Core.DFin b) : own_rnd (own_zv a * own_zv b) own_U (FP.dmul a b) := by
  obtain ⟨s, c, q, ea⟩ := ha
  obtain ⟨t, d, r, eb⟩ := hb
  have fa := Core.val64_fits a; have fb := Core.val64_fits b
  rw [ea] at fa; rw [eb] at fb
  obtain ⟨h1, h2, h3⟩ := Core.product_units fa fb
  have hv : Core.val64 (FP.dmul a b) = Core.round Core.b64 (.fin (s != t) (c * d) (q + r)) := by
    show Core.val64 (Core.dmul a b) = _
    rw [Core.val64_dmul, ea, eb, h1]
  have hq := Core.qmin_neg Core.good_b64
  have := own_rnd_of_round (e0 := 2 * Core.b64.qmin) hv (by omega) h2
  rw [h3, Core.signed_xor, show Core.b64.qmin - 2 * Core.b64.qmin = -Core.b64.qmin by omega, Core.pow_qmin64] at this
  unfold own_zv; rw [ea, eb]; exact this
theorem own_ddiv_rnd {a b : UInt64} (ha : Core.DFin a) (hb : Core.DFin b) (hz : own_zv b ≠ 0) : own_rnd (if 0 < own_zv b then own_zv a * own_U else -(own_zv a * own_U)) (own_zv b).natAbs (FP.ddiv a b) := by
  obtain ⟨s, c, q, ea⟩ := ha
  obtain ⟨t, d, r, eb⟩ := hb
  have fa := Core.val64_fits a; have fb := Core.val64_fits b
  rw [ea] at fa; rw [eb] at fb
  have hq1 := fa.2.1; have hq2 := fb.2.1
  have hqm := Core.qmin_neg Core.good_b64
  have zb : own_zv b = Core.signed t (Core.inUnits d r Core.b64.qmin) := by unfold own_zv; rw [eb]; rfl
  have za : own_zv a = Core.signed s (Core.inUnits c q Core.b64.qmin) := by unfold own_zv; rw [ea]; rfl
  have d0 : d ≠ 0 := fun h => hz (by rw [zb, h]; unfold Core.inUnits; rw [Nat.zero_mul]; exact Core.signed_zero t)
  have hB : 0 < Core.inUnits d r Core.b64.qmin := Nat.mul_pos (Nat.pos_of_ne_zero d0) (Nat.two_pow_pos _)
  have hv : Core.val64 (FP.ddiv a b) = Core.roundRatio Core.b64 (s != t) c d (q - r) := by
    show Core.val64 (Core.ddiv a b) = _
    rw [Core.val64_ddiv, ea, eb]; show (if d = 0 then _ else _) = _; rw [if_neg d0]
  have e1 : Core.inUnits c (q - r) (Core.b64.qmin - (r - Core.b64.qmin)) = Core.inUnits c q Core.b64.qmin * Core.one64 := by
    unfold Core.inUnits
    rw [← Core.pow_qmin64, Nat.mul_assoc, ← Nat.pow_add, show (q - r - (Core.b64.qmin - (r - Core.b64.qmin))).toNat = (q - Core.b64.qmin).toNat + (-Core.b64.qmin).toNat by omega]
  have e2 : ∀ v : Nat, v * 2 ^ (Core.b64.qmin - (Core.b64.qmin - (r - Core.b64.qmin))).toNat * d = v * Core.inUnits d r Core.b64.qmin := fun v => by
    unfold Core.inUnits
    rw [show Core.b64.qmin - (Core.b64.qmin - (r - Core.b64.qmin)) = r - Core.b64.qmin by omega, Nat.mul_assoc, Nat.mul_comm (2 ^ _) d]
  have hle : ∀ V : Core.Datum, Core.fits Core.b64 V → V ≠ .nan → Core.inUnits c q Core.b64.qmin * Core.one64 ≤ Core.zmag Core.b64 V * Core.inUnits d r Core.b64.qmin → Core.zmag Core.b64 (Core.roundRatio Core.b64 (s != t) c d (q - r)) ≤ Core.zmag Core.b64 V := fun V hV hn h =>
    Core.zmag_roundRatio_le Core.good_b64 (e0 := Core.b64.qmin - (r - Core.b64.qmin)) (Nat.pos_of_ne_zero d0) hV hn (by omega) (by omega) (by rw [e1, e2]; exact h)
  have hge : ∀ V : Core.Datum, Core.fits Core.b64 V → V ≠ .nan → Core.zmag Core.b64 V * Core.inUnits d r Core.b64.qmin ≤ Core.inUnits c q Core.b64.qmin * Core.one64 → Core.zmag Core.b64 V ≤ Core.zmag Core.b64 (Core.roundRatio Core.b64 (s != t) c d (q - r)) := fun V hV hn h =>
    Core.zmag_roundRatio_ge Core.good_b64 (e0 := Core.b64.qmin - (r - Core.b64.qmin)) (Nat.pos_of_ne_zero d0) hV (by omega) (by omega) (by rw [e1, e2]; exact h)
  have zr : own_zv (FP.ddiv a b) = Core.signed (s != t) (Core.zmag Core.b64 (Core.roundRatio Core.b64 (s != t) c d (q - r))) := by
    unfold own_zv; rw [hv]; unfold Core.zval; rw [Core.sgn_roundRatio]
  have hN : (if 0 < own_zv b then own_zv a * own_U else -(own_zv a * own_U)) = Core.signed (s != t) (Core.inUnits c q Core.b64.qmin * Core.one64) := by
    rw [zb, za, ← Core.signed_mul]
    cases s <;> cases t <;> simp only [Core.signed, if_true, if_false, Bool.false_eq_true, bne_self_eq_false, Bool.true_bne, Bool.false_bne, Bool.not_false, Bool.not_true] <;> split <;> omega
  have hD : ((own_zv b).natAbs : Int) = (Core.inUnits d r Core.b64.qmin : Nat) := by rw [zb, Core.natAbs_signed]
  have hzz : ∀ v : Nat, v * Core.inUnits d r Core.b64.qmin = 0 → v = 0 := fun v h => by rcases Nat.mul_eq_zero.mp h with h | h <;> omega
  rw [hN, hD]
  refine ⟨by rw [hv]; exact Core.roundRatio_ne_nan _ _ _ _ _, fun V hV h => ?_, fun V hV h => ?_⟩
  all_goals
    have h1 := hle _ (Core.val64_fits V) hV; have h2 := hge _ (Core.val64_fits V) hV; have h3 := hzz (Core.zmag Core.b64 (Core.val64 V))
    rw [zr]
    rw [show own_zv V = Core.signed (Core.sgn (Core.val64 V)) (Core.zmag Core.b64 (Core.val64 V)) from rfl] at h ⊢
    rw [← Core.signed_mul] at h
    generalize Core.zmag Core.b64 (Core.val64 V) * Core.inUnits d r Core.b64.qmin = vP at *
    generalize Core.inUnits c q Core.b64.qmin * Core.one64 = A at *
    generalize Core.sgn (Core.val64 V) = tV at *
    generalize (s != t) = st at *
    cases st <;> cases tV <;> simp only [Core.signed, if_true, Bool.false_eq_true, if_false] at h ⊢
    all_goals first
      | omega
      | (have := h1 (by omega); omega)
      | (have := h2 (by omega); omega)
      | (have := h1 (by omega); have := h3 (by omega); omega)
      | (have := h2 (by omega); have := h3 (by omega); omega)
/-- numbers of 53 digits are doubles -/
theorem own_rep (c : Int) (j : Nat) (hc : c.natAbs < 2 ^ 53) (hj : j ≤ 2045) : ∃ V, Core.DFin V ∧ own_zv V = c * ((2 ^ j : Nat) : Int) := by
  have hq1 : Core.b64.qmin = -1074 := Core.qmin_b64
  have hq2 : Core.b64.qmax = 971 := by decide
  obtain ⟨c', q', h1, h2⟩ := Core.round_exact Core.good_b64 (decide (c < 0)) (c := c.natAbs) (q := Core.b64.qmin + j) hc (by omega) (by omega)
  have hv : Core.val64 (Core.of64 (Core.round Core.b64 (.fin (decide (c < 0)) c.natAbs (Core.b64.qmin + j)))) = .fin (decide (c < 0)) c' q' := by
    rw [Core.val64_of64 (Core.round_fits Core.good_b64 _), h1]
  refine ⟨_, ⟨_, _, _, hv⟩, ?_⟩
  unfold own_zv; rw [hv]
  show Core.signed (decide (c < 0)) (Core.inUnits c' q' Core.b64.qmin) = _
  rw [h2]; unfold Core.inUnits
  rw [Core.signed_mul, show (Core.b64.qmin + (j : Int) - Core.b64.qmin).toNat = j by omega]
  congr 1
  by_cases h : c < 0
  · simp only [Core.signed, h, decide_true, if_true]; omega
  · simp only [Core.signed, h, decide_false, Bool.false_eq_true, if_false]; omega
theorem own_zv_lt {a : UInt64} (h : Core.DFin a) : (own_zv a).natAbs < Core.b64.tails * 2 ^ (Core.b64.exps - 2) := by
  have := Core.DFin.zval_lt h
  unfold own_zv Core.zval; rw [Core.natAbs_signed]; exact this
theorem own_fin_of {r V : UInt64} (hr : Core.val64 r ≠ .nan) (hV : Core.DFin V) (h : (own_zv r).natAbs ≤ (own_zv V).natAbs) : Core.DFin r := by
  cases e : Core.val64 r with
  | nan => exact absurd e hr
  | inf s =>
    have h1 := own_zv_lt hV
    have h2 : (own_zv r).natAbs = Core.b64.tails * 2 ^ (Core.b64.exps - 2) := by unfold own_zv Core.zval; rw [Core.natAbs_signed, e]; rfl
    omega
  | fin s c q => exact ⟨s, c, q, e⟩
/-- what is representable is not rounded -/
theorem own_exactV {N D : Int} {r V : UInt64} (h : own_rnd N D r) (hV : Core.DFin V) (e : own_zv V * D = N) : Core.DFin r ∧ own_zv r = own_zv V := by
  have h1 := h.2.1 V hV.ne_nan (by omega)
  have h2 := h.2.2 V hV.ne_nan (by omega)
  have h3 : own_zv r = own_zv V := by omega
  exact ⟨own_fin_of h.1 hV (by rw [h3]; exact Nat.le_refl _), h3⟩
theorem own_exact {N D : Int} {r : UInt64} (h : own_rnd N D r) (c : Int) (j : Nat) (hc : c.natAbs < 2 ^ 53) (hj : j ≤ 2045) (e : c * ((2 ^ j : Nat) : Int) * D = N) : Core.DFin r ∧ own_zv r = c * ((2 ^ j : Nat) : Int) := by
  obtain ⟨V, f, z⟩ := own_rep c j hc hj
  rw [← z] at e ⊢
  exact own_exactV h f e
/-! the order -/
theorem own_dcmp {a b : UInt64} (ha : Core.val64 a ≠ .nan) (hb : Core.val64 b ≠ .nan) : FP.dcmp a b = some (compare (own_zv a) (own_zv b)) := Core.dcmp_zval ha hb
theorem own_cmpv {a b : UInt64} (ha : Core.val64 a ≠ .nan) (hb : Core.val64 b ≠ .nan) (o : CmpOp) : cmpValue (FP.dcmp a b) o = if own_zv a < own_zv b then -1 else if own_zv a = own_zv b then 0 else 1 := by
  rw [own_dcmp ha hb, Core.compare_ite]
  by_cases h1 : own_zv a < own_zv b
  · simp only [h1, if_true]; cases o <;> rfl
  · by_cases h2 : own_zv a = own_zv b
    · simp only [h2, Int.lt_irrefl, if_true, if_false]; cases o <;> rfl
    · simp only [h1, h2, if_false]; cases o <;> rfl
theorem own_cmp_le {a b : UInt64} (ha : Core.val64 a ≠ .nan) (hb : Core.val64 b ≠ .nan) (h : own_zv a ≤ own_zv b) (o : CmpOp) : ¬ ((0 : Int32) < cmpValue (FP.dcmp a b) o) := by
  rw [own_cmpv ha hb]
  by_cases h1 : own_zv a < own_zv b
  · rw [if_pos h1]; decide
  · rw [if_neg h1, if_pos (by omega)]; decide
theorem own_cmp_ge {a b : UInt64} (ha : Core.val64 a ≠ .nan) (hb : Core.val64 b ≠ .nan) (h : own_zv b ≤ own_zv a) (o : CmpOp) : ¬ (cmpValue (FP.dcmp a b) o < (0 : Int32)) := by
  rw [own_cmpv ha hb, if_neg (by omega)]
  by_cases h1 : own_zv a = own_zv b
  · rw [if_pos h1]; decide
  · rw [if_neg h1]; decide
theorem own_cmp_lt {a b : UInt64} (ha : Core.val64 a ≠ .nan) (hb : Core.val64 b ≠ .nan) (h : own_zv a < own_zv b) (o : CmpOp) : cmpValue (FP.dcmp a b) o < (0 : Int32) := by
  rw [own_cmpv ha hb, if_pos h]; decide
theorem own_cmp_gt {a b : UInt64} (ha : Core.val64 a ≠ .nan) (hb : Core.val64 b ≠ .nan) (h : own_zv b < own_zv a) (o : CmpOp) : (0 : Int32) < cmpValue (FP.dcmp a b) o := by
  rw [own_cmpv ha hb, if_neg (by omega), if_neg (by omega)]; decide
theorem own_cmp_eq {a b : UInt64} (ha : Core.val64 a ≠ .nan) (hb : Core.val64 b ≠ .nan) (h : own_zv a = own_zv b) (o : CmpOp) : cmpValue (FP.dcmp a b) o = (0 : Int32) := by
  rw [own_cmpv ha hb, if_neg (by omega), if_pos h]
theorem own_cmp_ne {a b : UInt64} (ha : Core.val64 a ≠ .nan) (hb : Core.val64 b ≠ .nan) (h : own_zv a ≠ own_zv b) (o : CmpOp) : ¬ (cmpValue (FP.dcmp a b) o = (0 : Int32)) := by
  rw [own_cmpv ha hb]
  by_cases h1 : own_zv a < own_zv b
  · rw [if_pos h1]; decide
  · rw [if_neg h1, if_neg h]; decide
/-! no NaN -/
theorem own_nn {a : UInt64} (h : Core.val64 a ≠ .nan) : NoNaN64 a := noNaN64_no.mpr ((Core.notNaN_iff a).mpr h)
theorem own_rnd_nn {N D : Int} {r : UInt64} (h : own_rnd N D r) : NoNaN64 r := own_nn h.1
theorem own_fin_nn {a : UInt64} (h : Core.DFin a) : NoNaN64 a := own_nn h.ne_nan
/-! whole numbers -/
theorem own_i2d (x : Int32) : Core.DFin (FP.i2d x) ∧ own_zv (FP.i2d x) = x.toInt * own_U := ⟨Core.i2d_fin x, Core.DInt_zval (Core.i2d_int x)⟩
theorem own_l2d {x : Int64} (h : x.toInt.natAbs ≤ 2 ^ 53) : Core.DFin (FP.l2d x) ∧ own_zv (FP.l2d x) = x.toInt * own_U := ⟨Core.l2d_fin x, Core.DInt_zval (Core.l2d_int h)⟩
theorem own_U_eq : own_U = ((2 ^ 1074 : Nat) : Int) := rfl
end OwnFloat
section OwnFloat2
open Jvm.FP Jvm.FP.Core
theorem own_lt_U {i j : Int} : i * own_U < j * own_U ↔ i < j := by
  have h := own_U_pos
  constructor
  · intro q; exact Int.lt_of_mul_lt_mul_right q (Int.le_of_lt h)
  · intro q; exact Int.mul_lt_mul_of_pos_right q h
theorem own_eq_U {i j : Int} : i * own_U = j * own_U ↔ i = j := by
  have h := own_U_pos
  constructor
  · intro q; exact Int.eq_of_mul_eq_mul_right (by omega) q
  · intro q; rw [q]
/-- a is the whole number i -/
def own_is (i : Int) (a : UInt64) : Prop := Core.DFin a ∧ own_zv a = i * own_U
theorem own_is_i2d (x : Int32) : own_is x.toInt (FP.i2d x) := own_i2d x
theorem own_is_neg0 : own_is 0 (9223372036854775808 : UInt64) := ⟨by rw [Core.fin_bits]; decide, by decide +kernel⟩
theorem own_is_0 : own_is 0 (0 : UInt64) := ⟨by rw [Core.fin_bits]; decide, by decide +kernel⟩
theorem own_cmpU {a b : UInt64} {i j : Int} (ha : own_is i a) (hb : own_is j b) (o : CmpOp) : cmpValue (FP.dcmp a b) o = if i < j then -1 else if i = j then 0 else 1 := by
  rw [own_cmpv ha.1.ne_nan hb.1.ne_nan, ha.2, hb.2]; simp only [own_lt_U, own_eq_U]
end OwnFloat2
section OwnFloat3
open Jvm.FP Jvm.FP.Core
theorem own_is_dneg {i : Int} {a : UInt64} (h : own_is i a) : own_is (-i) (FP.dneg a) := by
  obtain ⟨f, z⟩ := own_dneg_zv h.1
  exact ⟨f, by rw [z, h.2, Int.neg_mul]⟩
theorem own_self {a : UInt64} (h : Core.DFin a) (o : CmpOp) : cmpValue (FP.dcmp a a) o = (0 : Int32) := own_cmp_eq h.ne_nan h.ne_nan rfl o
/-- x - x is nought -/
theorem own_dsub_self {a : UInt64} (h : Core.DFin a) : FP.dsub a a = 0 := by
  obtain ⟨s, c, q, e⟩ := h
  exact Core.dsub_self e
end OwnFloat3
section OwnFloat4
open Jvm.FP Jvm.FP.Core
theorem own_rep_le (c : Int) (j : Nat) (hc : c.natAbs ≤ 2 ^ 53) (hj : j ≤ 2044) : ∃ V, Core.DFin V ∧ own_zv V = c * ((2 ^ j : Nat) : Int) := by
  by_cases h : c.natAbs < 2 ^ 53
  · exact own_rep c j h (by omega)
  · obtain ⟨V, f, z⟩ := own_rep (c / 2) (j + 1) (by omega) (by omega)
    refine ⟨V, f, ?_⟩
    rw [z, Nat.pow_succ, Int.natCast_mul]
    have : c = c / 2 * 2 := by omega
    rw [Int.mul_comm ((2 ^ j : Nat) : Int), ← Int.mul_assoc]
    have e : c / 2 * ((2 : Nat) : Int) = c := by omega
    rw [e]
theorem own_rnd_scale {N D k : Int} {r : UInt64} (hk : 0 < k) (h : own_rnd (N * k) (D * k) r) : own_rnd N D r := by
  refine ⟨h.1, fun V hV q => h.2.1 V hV ?_, fun V hV q => h.2.2 V hV ?_⟩
  · rw [← Int.mul_assoc]; exact Int.mul_le_mul_of_nonneg_right q (Int.le_of_lt hk)
  · rw [← Int.mul_assoc]; exact Int.mul_le_mul_of_nonneg_right q (Int.le_of_lt hk)
/-- the relative error, one unit in the last place at the most -/
theorem own_rel {N D : Int} {r : UInt64} (h : own_rnd N D r) (hD : 0 < D) (lo : 4503599627370496 * D ≤ N) (hi : N / D < ((2 ^ 2096 : Nat) : Int)) :
    Core.DFin r ∧ 4503599627370496 * (own_zv r * D - N) ≤ N ∧ 4503599627370496 * (N - own_zv r * D) ≤ N := by
  have hM : 4503599627370496 ≤ N / D := Int.le_ediv_of_mul_le hD lo
  obtain ⟨m, hm⟩ : ∃ m : Nat, N / D = (m : Int) := ⟨(N / D).toNat, by omega⟩
  have hN := Int.mul_ediv_add_emod N D
  have hr0 := Int.emod_nonneg N (show D ≠ 0 by omega)
  have hr1 := Int.emod_lt_of_pos N hD
  have m0 : m ≠ 0 := by omega
  have l1 : 2 ^ m.log2 ≤ m := Nat.log2_self_le m0
  have l2 : m < 2 ^ (m.log2 + 1) := Nat.lt_log2_self
  have l3 : 52 ≤ m.log2 := by
    apply Nat.le_of_lt_succ
    apply (Nat.pow_lt_pow_iff_right (by decide : 1 < 2)).mp
    exact Nat.lt_of_le_of_lt (show 2 ^ 52 ≤ m by omega) l2
  have l4 : m.log2 < 2096 := by
    apply (Nat.pow_lt_pow_iff_right (by decide : 1 < 2)).mp
    exact Nat.lt_of_le_of_lt l1 (by rw [hm] at hi; exact Int.ofNat_lt.mp hi)
  obtain ⟨e, he⟩ : ∃ e, m.log2 = e + 52 := ⟨m.log2 - 52, by omega⟩
  have hg : 0 < 2 ^ e := Nat.two_pow_pos e
  have p1 : 2 ^ m.log2 = 2 ^ e * 4503599627370496 := by rw [he, Nat.pow_add]
  have p2 : 2 ^ (m.log2 + 1) = 2 ^ e * 9007199254740992 := by rw [he, Nat.pow_add, Nat.pow_add]; omega
  have dm := Nat.div_add_mod m (2 ^ e)
  have ml := Nat.mod_lt m hg
  have k1 : 4503599627370496 ≤ m / 2 ^ e := (Nat.le_div_iff_mul_le hg).mpr (by rw [Nat.mul_comm]; omega)
  have k2 : m / 2 ^ e < 9007199254740992 := (Nat.div_lt_iff_lt_mul hg).mpr (by rw [Nat.mul_comm]; omega)
  obtain ⟨V1, f1, z1⟩ := own_rep_le ((m / 2 ^ e : Nat) : Int) e (by omega) (by omega)
  obtain ⟨V2, f2, z2⟩ := own_rep_le ((m / 2 ^ e + 1 : Nat) : Int) e (by omega) (by omega)
  have a1 : ((m / 2 ^ e : Nat) : Int) * ((2 ^ e : Nat) : Int) ≤ (m : Int) := by rw [← Int.natCast_mul]; exact Int.ofNat_le.mpr (Nat.div_mul_le_self _ _)
  have a2 : (m : Int) + 1 ≤ ((m / 2 ^ e + 1 : Nat) : Int) * ((2 ^ e : Nat) : Int) := by
    rw [← Int.natCast_mul]; have : m + 1 ≤ (m / 2 ^ e + 1) * 2 ^ e := by rw [Nat.add_mul, Nat.one_mul, Nat.mul_comm]; omega
    exact Int.ofNat_le.mpr this
  have a3 : ((m / 2 ^ e + 1 : Nat) : Int) * ((2 ^ e : Nat) : Int) = ((m / 2 ^ e : Nat) : Int) * ((2 ^ e : Nat) : Int) + ((2 ^ e : Nat) : Int) := by
    rw [Int.natCast_add, Int.add_mul]; simp
  have a4 : 4503599627370496 * ((2 ^ e : Nat) : Int) ≤ (m : Int) := by
    have : 2 ^ e * 4503599627370496 ≤ m := by omega
    omega
  have b1 : own_zv V1 * D ≤ N := by
    rw [z1]; have := Int.mul_le_mul_of_nonneg_right a1 (Int.le_of_lt hD); rw [hm, Int.mul_comm] at hN; omega
  have b2 : N ≤ own_zv V2 * D := by
    rw [z2]; have := Int.mul_le_mul_of_nonneg_right a2 (Int.le_of_lt hD); rw [Int.add_mul, Int.one_mul] at this; rw [hm, Int.mul_comm] at hN; omega
  have c1 := h.2.1 V1 f1.ne_nan b1
  have c2 := h.2.2 V2 f2.ne_nan b2
  rw [z1] at c1 b1; rw [z2] at c2 b2
  have d1 := Int.mul_le_mul_of_nonneg_right c1 (Int.le_of_lt hD)
  have d2 := Int.mul_le_mul_of_nonneg_right c2 (Int.le_of_lt hD)
  have d3 := Int.mul_le_mul_of_nonneg_right a4 (Int.le_of_lt hD)
  rw [a3, Int.add_mul] at d2 b2
  have d4 : (m : Int) * D ≤ N := by rw [hm, Int.mul_comm] at hN; omega
  rw [Int.mul_assoc] at d3
  refine ⟨own_fin_of h.1 f2 ?_, by omega, by omega⟩
  rw [z2]
  have s0 : 0 ≤ ((m / 2 ^ e : Nat) : Int) * ((2 ^ e : Nat) : Int) := Int.mul_nonneg (Int.natCast_nonneg _) (Int.natCast_nonneg _)
  omega
theorem own_is_mul {i j : Int} {a b : UInt64} (ha : own_is i a) (hb : own_is j b) (h : (i * j).natAbs < 2 ^ 53) : own_is (i * j) (FP.dmul a b) := by
  refine own_exact (own_dmul_rnd ha.1 hb.1) (i * j) 1074 h (by decide) ?_
  rw [ha.2, hb.2, ← own_U_eq]; simp only [Int.mul_assoc, Int.mul_comm, Int.mul_left_comm]
theorem own_is_add {i j : Int} {a b : UInt64} (ha : own_is i a) (hb : own_is j b) (h : (i + j).natAbs < 2 ^ 53) : own_is (i + j) (FP.dadd a b) := by
  refine own_exact (own_dadd_rnd ha.1 hb.1) (i + j) 1074 h (by decide) ?_
  rw [ha.2, hb.2, ← own_U_eq, Int.mul_one, Int.add_mul]
theorem own_is_sub {i j : Int} {a b : UInt64} (ha : own_is i a) (hb : own_is j b) (h : (i - j).natAbs < 2 ^ 53) : own_is (i - j) (FP.dsub a b) := by
  refine own_exact (own_dsub_rnd ha.1 hb.1) (i - j) 1074 h (by decide) ?_
  rw [ha.2, hb.2, ← own_U_eq, Int.mul_one, Int.sub_mul]
theorem own_is_l2d {x : Int64} (h : x.toInt.natAbs ≤ 2 ^ 53) : own_is x.toInt (FP.l2d x) := own_l2d h
/-- the quotient of two whole numbers, the divisor positive -/
theorem own_is_div_rnd {i j : Int} {a b : UInt64} (ha : own_is i a) (hb : own_is j b) (hj : 0 < j) : own_rnd (i * own_U) j (FP.ddiv a b) := by
  have hU := own_U_pos
  have hz : 0 < own_zv b := by rw [hb.2]; exact Int.mul_pos hj hU
  have h := own_ddiv_rnd ha.1 hb.1 (by omega)
  rw [if_pos hz, Int.natAbs_of_nonneg (Int.le_of_lt hz), ha.2, hb.2] at h
  exact own_rnd_scale hU h
end OwnFloat4
section OwnFloat5
open Jvm.FP Jvm.FP.Core
/-- a is c * 2^(j - 1074) -/
def own_at (c : Int) (j : Nat) (a : UInt64) : Prop := Core.DFin a ∧ own_zv a = c * ((2 ^ j : Nat) : Int)
theorem own_at_is {i : Int} {a : UInt64} (h : own_is i a) : own_at i 1074 a := h
theorem own_at_add {c1 c2 : Int} {j : Nat} {a b : UInt64} (ha : own_at c1 j a) (hb : own_at c2 j b) (h : (c1 + c2).natAbs < 2 ^ 53) (hj : j ≤ 2045) : own_at (c1 + c2) j (FP.dadd a b) := by
  refine own_exact (own_dadd_rnd ha.1 hb.1) (c1 + c2) j h hj ?_
  rw [ha.2, hb.2, Int.mul_one, Int.add_mul]
theorem own_at_sub {c1 c2 : Int} {j : Nat} {a b : UInt64} (ha : own_at c1 j a) (hb : own_at c2 j b) (h : (c1 - c2).natAbs < 2 ^ 53) (hj : j ≤ 2045) : own_at (c1 - c2) j (FP.dsub a b) := by
  refine own_exact (own_dsub_rnd ha.1 hb.1) (c1 - c2) j h hj ?_
  rw [ha.2, hb.2, Int.mul_one, Int.sub_mul]
theorem own_at_mul {c1 c2 : Int} {j1 j2 : Nat} {a b : UInt64} (ha : own_at c1 j1 a) (hb : own_at c2 j2 b) (j : Nat) (e : j1 + j2 = j + 1074) (h : (c1 * c2).natAbs < 2 ^ 53) (hj : j ≤ 2045) : own_at (c1 * c2) j (FP.dmul a b) := by
  refine own_exact (own_dmul_rnd ha.1 hb.1) (c1 * c2) j h hj ?_
  have p : ((2 ^ j : Nat) : Int) * own_U = ((2 ^ j1 : Nat) : Int) * ((2 ^ j2 : Nat) : Int) := by rw [own_U_eq, ← Int.natCast_mul, ← Int.natCast_mul, ← Nat.pow_add, ← Nat.pow_add, e]
  rw [ha.2, hb.2, Int.mul_assoc (c1 * c2), p]; simp only [Int.mul_assoc, Int.mul_comm, Int.mul_left_comm]
/-- a quotient that is exact -/
theorem own_at_div {c1 c2 c : Int} {j1 j2 : Nat} {a b : UInt64} (ha : own_at c1 j1 a) (hb : own_at c2 j2 b) (hc : 0 < c2) (j : Nat) (e : c * c2 * ((2 ^ (j + j2) : Nat) : Int) = c1 * ((2 ^ (j1 + 1074) : Nat) : Int)) (h : c.natAbs < 2 ^ 53) (hj : j ≤ 2045) : own_at c j (FP.ddiv a b) := by
  have hz : 0 < own_zv b := by rw [hb.2]; exact Int.mul_pos hc (Int.natCast_pos.mpr (Nat.two_pow_pos _))
  have hr := own_ddiv_rnd ha.1 hb.1 (by omega)
  rw [if_pos hz, Int.natAbs_of_nonneg (Int.le_of_lt hz)] at hr
  refine own_exact hr c j h hj ?_
  rw [ha.2, hb.2, own_U_eq]
  rw [Nat.pow_add, Nat.pow_add, Int.natCast_mul, Int.natCast_mul] at e
  have l : c * ((2 ^ j : Nat) : Int) * (c2 * ((2 ^ j2 : Nat) : Int)) = c * c2 * (((2 ^ j : Nat) : Int) * ((2 ^ j2 : Nat) : Int)) := by simp only [Int.mul_assoc, Int.mul_comm, Int.mul_left_comm]
  rw [l, e, Int.mul_assoc]
theorem own_at_up {c : Int} {j i : Nat} {a : UInt64} (h : own_at c (j + i) a) : own_at (c * ((2 ^ i : Nat) : Int)) j a :=
  ⟨h.1, by rw [h.2, Nat.pow_add, Int.natCast_mul, Int.mul_assoc, Int.mul_comm ((2 ^ i : Nat) : Int)]⟩
theorem own_at_dn {c : Int} {j i : Nat} {a : UInt64} (h : own_at (c * ((2 ^ i : Nat) : Int)) j a) : own_at c (j + i) a :=
  ⟨h.1, by rw [h.2, Nat.pow_add, Int.natCast_mul, Int.mul_assoc, Int.mul_comm ((2 ^ i : Nat) : Int)]⟩
theorem own_at_eq {c : Int} {j : Nat} {a b : UInt64} (ha : own_at c j a) (hb : own_at c j b) (o : CmpOp) : cmpValue (FP.dcmp a b) o = (0 : Int32) := own_cmp_eq ha.1.ne_nan hb.1.ne_nan (by rw [ha.2, hb.2]) o
theorem own_at_nn {c : Int} {j : Nat} {a : UInt64} (h : own_at c j a) : NoNaN64 a := own_fin_nn h.1
end OwnFloat5
section OwnFloat6
open Jvm.FP Jvm.FP.Core
theorem own_is_div {k j : Int} {a b : UInt64} (ha : own_is (k * j) a) (hb : own_is j b) (hj : j ≠ 0) (h : k.natAbs < 2 ^ 53) : own_is k (FP.ddiv a b) := by
  have hU := own_U_pos
  have hz : own_zv b ≠ 0 := by rw [hb.2]; intro q; rcases Int.mul_eq_zero.mp q with q | q <;> omega
  refine own_exact (own_ddiv_rnd ha.1 hb.1 hz) k 1074 h (by decide) ?_
  rw [← own_U_eq]
  by_cases q : 0 < own_zv b
  · rw [if_pos q, Int.natAbs_of_nonneg (Int.le_of_lt q), ha.2, hb.2]; simp only [Int.mul_assoc, Int.mul_comm, Int.mul_left_comm]
  · rw [if_neg q]
    have e : ((own_zv b).natAbs : Int) = -own_zv b := by omega
    rw [e, ha.2, hb.2, Int.mul_neg]; congr 1; simp only [Int.mul_assoc, Int.mul_comm, Int.mul_left_comm]
theorem own_fin_between {r V1 V2 : UInt64} (hr : Core.val64 r ≠ .nan) (h1 : Core.DFin V1) (h2 : Core.DFin V2) (a : own_zv V1 ≤ own_zv r) (b : own_zv r ≤ own_zv V2) : Core.DFin r := by
  by_cases q : (own_zv r).natAbs ≤ (own_zv V1).natAbs
  · exact own_fin_of hr h1 q
  · exact own_fin_of hr h2 (by omega)
/-- a quotient by a whole number, of any dividend -/
theorem own_div_rnd {j : Int} {a b : UInt64} (ha : Core.DFin a) (hb : own_is j b) (hj : 0 < j) : own_rnd (own_zv a) j (FP.ddiv a b) := by
  have hU := own_U_pos
  have hz : 0 < own_zv b := by rw [hb.2]; exact Int.mul_pos hj hU
  have h := own_ddiv_rnd ha hb.1 (by omega)
  rw [if_pos hz, Int.natAbs_of_nonneg (Int.le_of_lt hz), hb.2] at h
  exact own_rnd_scale hU h
theorem own_rep_is (k : Int) (h : k.natAbs < 2 ^ 53) : ∃ V, own_is k V := own_rep k 1074 h (by decide)
end OwnFloat6
section OwnFloat7
open Jvm.FP Jvm.FP.Core
/-- one value, not nought: one pattern of bits -/
theorem own_bits {a b : UInt64} (ha : Core.DFin a) (hb : Core.DFin b) (e : own_zv a = own_zv b) (h : own_zv b ≠ 0) : a = b := by
  refine Core.eq_bits (fun q => h ?_) ?_
  · have := Core.DZero.zval q; exact this
  · show FP.dcmp a b = _
    rw [own_dcmp ha.ne_nan hb.ne_nan, e, Core.compare_self_int]
theorem own_at_bits {c : Int} {j : Nat} {a b : UInt64} (ha : own_at c j a) (hb : own_at c j b) (h : c ≠ 0) : a = b := by
  refine own_bits ha.1 hb.1 (by rw [ha.2, hb.2]) ?_
  rw [hb.2]; intro q
  rcases Int.mul_eq_zero.mp q with q | q
  · exact h q
  · have := Nat.two_pow_pos j; omega
theorem own_fin64 {a : UInt64} (h : Core.DFin a) : Fin64 a := fin64_core.mpr h
end OwnFloat7
section OwnFloat8
open Jvm.FP Jvm.FP.Core
/-- r's magnitude is A / B (units of 2^-1074), rounded to nearest -/
def own_rr (A B : Nat) (r : UInt64) : Prop := 0 < B ∧ ∃ s, Core.val64 r = Core.roundRatio Core.b64 s A B Core.b64.qmin
theorem own_mag {a : UInt64} : (own_zv a).natAbs = Core.zmag Core.b64 (Core.val64 a) := by unfold own_zv Core.zval; rw [Core.natAbs_signed]
theorem own_in0 (A : Nat) : Core.inUnits A Core.b64.qmin Core.b64.qmin = A := by unfold Core.inUnits; rw [own_pow0, Nat.mul_one]
theorem own_rr_mono {A1 B1 A2 B2 : Nat} {r1 r2 : UInt64} (h1 : own_rr A1 B1 r1) (h2 : own_rr A2 B2 r2) (f1 : Core.DFin r1) (f2 : Core.DFin r2) (h : A1 * B2 ≤ A2 * B1) : (own_zv r1).natAbs ≤ (own_zv r2).natAbs := by
  obtain ⟨b1, s1, e1⟩ := h1
  obtain ⟨b2, s2, e2⟩ := h2
  have n1 := f1.ne_nan; have n2 := f2.ne_nan
  rw [own_mag, own_mag]
  by_cases q1 : A1 ≤ Core.zmag Core.b64 (Core.val64 r2) * B1
  · have := Core.zmag_roundRatio_le Core.good_b64 (s := s1) (A := A1) (B := B1) (e := Core.b64.qmin) (e0 := Core.b64.qmin) b1 (Core.val64_fits r2) n2 (Int.le_refl _) (Int.le_refl _) (by rw [own_in0, own_pow0, Nat.mul_one]; exact q1)
    rw [← e1] at this; exact this
  · by_cases q2 : Core.zmag Core.b64 (Core.val64 r1) * B2 ≤ A2
    · have := Core.zmag_roundRatio_ge Core.good_b64 (s := s2) (A := A2) (B := B2) (e := Core.b64.qmin) (e0 := Core.b64.qmin) b2 (Core.val64_fits r1) (Int.le_refl _) (Int.le_refl _) (by rw [own_in0, own_pow0, Nat.mul_one]; exact q2)
      rw [← e2] at this; exact this
    · apply Nat.le_of_not_lt; intro hlt
      obtain ⟨t1, c1, x1, v1⟩ := f1
      obtain ⟨t2, c2, x2, v2⟩ := f2
      have g1 := Core.val64_fits r1; rw [v1] at g1
      have g2 := Core.val64_fits r2; rw [v2] at g2
      have d1 := Core.roundRatio_nearest Core.good_b64 (e0 := Core.b64.qmin) b1 (e1.symm.trans v1) g2.1 g2.2.1 (Int.le_refl _) (Int.le_refl _)
      have d2 := Core.roundRatio_nearest Core.good_b64 (e0 := Core.b64.qmin) b2 (e2.symm.trans v2) g1.1 g1.2.1 (Int.le_refl _) (Int.le_refl _)
      unfold Core.distance at d1 d2
      rw [own_in0] at d1 d2
      have z1 : Core.zmag Core.b64 (Core.val64 r1) = Core.inUnits c1 x1 Core.b64.qmin := by rw [v1]; rfl
      have z2 : Core.zmag Core.b64 (Core.val64 r2) = Core.inUnits c2 x2 Core.b64.qmin := by rw [v2]; rfl
      rw [← z1, ← z2] at d1 d2
      generalize hz1 : Core.zmag Core.b64 (Core.val64 r1) = Z1 at *
      generalize hz2 : Core.zmag Core.b64 (Core.val64 r2) = Z2 at *
      rw [← Int.natCast_mul, ← Int.natCast_mul] at d1 d2
      -- A1 < Z1 * B1 as well
      have k1 : A1 * B2 < Z1 * B1 * B2 := by
        have : A2 * B1 < Z1 * B2 * B1 := Nat.mul_lt_mul_of_pos_right (by omega) b1
        have e : Z1 * B2 * B1 = Z1 * B1 * B2 := by simp only [Nat.mul_assoc, Nat.mul_comm, Nat.mul_left_comm]
        omega
      have k2 : A1 < Z1 * B1 := Nat.lt_of_mul_lt_mul_right k1
      have k3 : Z2 * B1 * B2 < A2 * B1 := by
        have : Z2 * B1 * B2 < A1 * B2 := Nat.mul_lt_mul_of_pos_right (by omega) b2
        omega
      have k4 : Z2 * B2 < A2 := by
        have e : Z2 * B1 * B2 = Z2 * B2 * B1 := by simp only [Nat.mul_assoc, Nat.mul_comm, Nat.mul_left_comm]
        rw [e] at k3; exact Nat.lt_of_mul_lt_mul_right k3
      have m1 : (Z1 + Z2) * B1 ≤ 2 * A1 := by rw [Nat.add_mul]; omega
      have m2 : 2 * A2 ≤ (Z1 + Z2) * B2 := by rw [Nat.add_mul]; omega
      have m3 := Nat.mul_le_mul_right B2 m1
      have m4 := Nat.mul_le_mul_right B1 m2
      have e3 : (Z1 + Z2) * B1 * B2 = (Z1 + Z2) * B2 * B1 := by simp only [Nat.mul_assoc, Nat.mul_comm, Nat.mul_left_comm]
      have e4 : 2 * A1 * B2 = 2 * (A1 * B2) := Nat.mul_assoc _ _ _
      have e5 : 2 * A2 * B1 = 2 * (A2 * B1) := Nat.mul_assoc _ _ _
      have e6 : A1 * B2 = A2 * B1 := by omega
      have cg := Core.roundRatio_congr (f := Core.b64) (s := s1) (e := Core.b64.qmin) (e' := Core.b64.qmin) b1 b2 (by rw [own_pow0, Nat.mul_one, Nat.mul_one]; exact e6)
      have w1 := Core.zmag_roundRatio_le Core.good_b64 (s := s1) (A := A2) (B := B2) (e := Core.b64.qmin) (e0 := Core.b64.qmin) (V := Core.val64 r2) b2 (Core.val64_fits r2) n2 (Int.le_refl _) (Int.le_refl _)
      -- one sign or the other: the magnitudes are one
      have sg : Core.zmag Core.b64 (Core.roundRatio Core.b64 s1 A2 B2 Core.b64.qmin) = Core.zmag Core.b64 (Core.roundRatio Core.b64 s2 A2 B2 Core.b64.qmin) := by
        by_cases q : s1 = s2
        · rw [q]
        · have e : s2 = !s1 := by cases s1 <;> cases s2 <;> simp at q ⊢
          have ng := Core.negate_roundRatio Core.b64 s1 A2 B2 Core.b64.qmin
          rw [e, ← ng]
          cases Core.roundRatio Core.b64 s1 A2 B2 Core.b64.qmin <;> rfl
      rw [← cg, ← e1, ← e2, hz1, hz2] at sg
      omega
theorem own_rr_of_round {x : UInt64} {sg : Bool} {n : Nat} {e : Int} {A B : Nat} (hx : Core.val64 x = Core.round Core.b64 (.fin sg n e)) (hB : 0 < B) (h : n * B * 2 ^ (e - Core.b64.qmin).toNat = A * 1 * 2 ^ (Core.b64.qmin - e).toNat) : own_rr A B x :=
  ⟨hB, sg, hx.trans (Core.roundRatio_congr (f := Core.b64) (s := sg) (by decide) hB h)⟩
theorem own_rr_dmul {a b : UInt64} (ha : Core.DFin a) (hb : Core.DFin b) : own_rr ((own_zv a).natAbs * (own_zv b).natAbs) Core.one64 (FP.dmul a b) := by
  obtain ⟨s, c, q, ea⟩ := ha
  obtain ⟨t, d, r, eb⟩ := hb
  have fa := Core.val64_fits a; have fb := Core.val64_fits b
  rw [ea] at fa; rw [eb] at fb
  have h1 := fa.2.1; have h2 := fb.2.1
  have hq := Core.qmin_neg Core.good_b64
  have hv : Core.val64 (FP.dmul a b) = Core.round Core.b64 (.fin (s != t) (c * d) (q + r)) := by
    show Core.val64 (Core.dmul a b) = _
    rw [Core.val64_dmul, ea, eb]; rfl
  refine own_rr_of_round hv Core.one64_pos ?_
  rw [own_mag, own_mag, ea, eb]
  show _ = Core.inUnits c q Core.b64.qmin * Core.inUnits d r Core.b64.qmin * 1 * _
  unfold Core.inUnits
  rw [← Core.pow_qmin64, Nat.mul_one]
  have l : c * d * 2 ^ (-Core.b64.qmin).toNat * 2 ^ (q + r - Core.b64.qmin).toNat = c * d * 2 ^ ((-Core.b64.qmin).toNat + (q + r - Core.b64.qmin).toNat) := by rw [Nat.pow_add, Nat.mul_assoc (c * d)]
  have m : c * 2 ^ (q - Core.b64.qmin).toNat * (d * 2 ^ (r - Core.b64.qmin).toNat) * 2 ^ (Core.b64.qmin - (q + r)).toNat = c * d * 2 ^ ((q - Core.b64.qmin).toNat + (r - Core.b64.qmin).toNat + (Core.b64.qmin - (q + r)).toNat) := by
    rw [Nat.pow_add, Nat.pow_add]; simp only [Nat.mul_assoc, Nat.mul_comm, Nat.mul_left_comm]
  rw [l, m]; congr 2; omega
theorem own_rr_dadd {a b : UInt64} (ha : Core.DFin a) (hb : Core.DFin b) : own_rr (own_zv a + own_zv b).natAbs 1 (FP.dadd a b) := by
  obtain ⟨s, c, q, ea⟩ := ha
  obtain ⟨t, d, r, eb⟩ := hb
  have fa := Core.val64_fits a; have fb := Core.val64_fits b
  rw [ea] at fa; rw [eb] at fb
  obtain ⟨sg, n, e, h1, h2, h3⟩ := Core.sum_units fa fb
  have hv : Core.val64 (FP.dadd a b) = Core.round Core.b64 (.fin sg n e) := by
    show Core.val64 (Core.dadd a b) = _
    rw [Core.val64_dadd, ea, eb, h1]
  refine own_rr_of_round hv (by decide) ?_
  have z : (own_zv a + own_zv b).natAbs = Core.inUnits n e Core.b64.qmin := by
    unfold own_zv; rw [ea, eb, ← h3, Core.natAbs_signed]
  rw [z, Nat.mul_one, Nat.mul_one]
  unfold Core.inUnits
  rw [show (Core.b64.qmin - e).toNat = 0 by omega, Nat.pow_zero, Nat.mul_one]
theorem own_rr_ddiv {a b : UInt64} (ha : Core.DFin a) (hb : Core.DFin b) (hz : own_zv b ≠ 0) : own_rr ((own_zv a).natAbs * Core.one64) (own_zv b).natAbs (FP.ddiv a b) := by
  obtain ⟨s, c, q, ea⟩ := ha
  obtain ⟨t, d, r, eb⟩ := hb
  have fa := Core.val64_fits a; have fb := Core.val64_fits b
  rw [ea] at fa; rw [eb] at fb
  have h1 := fa.2.1; have h2 := fb.2.1
  have hq := Core.qmin_neg Core.good_b64
  have zb : own_zv b = Core.signed t (Core.inUnits d r Core.b64.qmin) := by unfold own_zv; rw [eb]; rfl
  have d0 : d ≠ 0 := fun h => hz (by rw [zb, h]; unfold Core.inUnits; rw [Nat.zero_mul]; exact Core.signed_zero t)
  have hv : Core.val64 (FP.ddiv a b) = Core.roundRatio Core.b64 (s != t) c d (q - r) := by
    show Core.val64 (Core.ddiv a b) = _
    rw [Core.val64_ddiv, ea, eb]; show (if d = 0 then _ else _) = _; rw [if_neg d0]
  refine ⟨by omega, s != t, hv.trans (Core.roundRatio_congr (Nat.pos_of_ne_zero d0) (by omega) ?_)⟩
  rw [own_mag, own_mag, ea, eb]
  show c * Core.inUnits d r Core.b64.qmin * _ = Core.inUnits c q Core.b64.qmin * Core.one64 * d * _
  unfold Core.inUnits
  rw [← Core.pow_qmin64]
  have l : c * (d * 2 ^ (r - Core.b64.qmin).toNat) * 2 ^ (q - r - Core.b64.qmin).toNat = c * d * 2 ^ ((r - Core.b64.qmin).toNat + (q - r - Core.b64.qmin).toNat) := by
    rw [Nat.pow_add]; simp only [Nat.mul_assoc, Nat.mul_comm, Nat.mul_left_comm]
  have m : c * 2 ^ (q - Core.b64.qmin).toNat * 2 ^ (-Core.b64.qmin).toNat * d * 2 ^ (Core.b64.qmin - (q - r)).toNat = c * d * 2 ^ ((q - Core.b64.qmin).toNat + (-Core.b64.qmin).toNat + (Core.b64.qmin - (q - r)).toNat) := by
    rw [Nat.pow_add, Nat.pow_add]; simp only [Nat.mul_assoc, Nat.mul_comm, Nat.mul_left_comm]
  rw [l, m]; congr 2; omega
end OwnFloat8
section OwnFloat9
open Jvm.FP Jvm.FP.Core
/-- a quotient by a power of two -/
theorem own_at_divp {c : Int} {j i : Nat} {a b : UInt64} (ha : own_at c (j + i) a) (hb : own_at 1 (1074 + i) b) (h : c.natAbs < 2 ^ 53) (hj : j ≤ 2045) : own_at c j (FP.ddiv a b) := by
  refine own_at_div ha hb (by decide) j ?_ h hj
  rw [Int.mul_one, show j + (1074 + i) = j + i + 1074 by omega]
theorem own_8d : own_at 1 (1074 + 3) (4620693217682128896 : UInt64) := ⟨by rw [Core.fin_bits]; decide, by decide +kernel⟩
theorem own_2d : own_at 1 (1074 + 1) (4611686018427387904 : UInt64) := ⟨by rw [Core.fin_bits]; decide, by decide +kernel⟩
end OwnFloat9

theorem own_pn0 : plainName "com/example/ostia/ostia/PoolStatus" = true := by first | (simp [plainName, overriddenIn]; done) | decide +kernel
theorem own_d1_0 : decode prog_14_method_1_code 0 = .ok (.aload_n 0, 1) := by decide +kernel
theorem own_d1_1 : decode prog_14_method_1_code 1 = .ok (.invokespecial 1, 3) := by decide +kernel
theorem own_d1_4 : decode prog_14_method_1_code 4 = .ok (.aload_n 0, 1) := by decide +kernel
theorem own_d1_5 : decode prog_14_method_1_code 5 = .ok (.iload_n 1, 1) := by decide +kernel
theorem own_d1_6 : decode prog_14_method_1_code 6 = .ok (.putfield 7, 3) := by decide +kernel
theorem own_d1_9 : decode prog_14_method_1_code 9 = .ok (.aload_n 0, 1) := by decide +kernel
theorem own_d1_10 : decode prog_14_method_1_code 10 = .ok (.iload_n 2, 1) := by decide +kernel
theorem own_d1_11 : decode prog_14_method_1_code 11 = .ok (.putfield 13, 3) := by decide +kernel
theorem own_d1_14 : decode prog_14_method_1_code 14 = .ok (.aload_n 0, 1) := by decide +kernel
theorem own_d1_15 : decode prog_14_method_1_code 15 = .ok (.iload_n 3, 1) := by decide +kernel
theorem own_d1_16 : decode prog_14_method_1_code 16 = .ok (.putfield 16, 3) := by decide +kernel
theorem own_d1_19 : decode prog_14_method_1_code 19 = .ok (.aload_n 0, 1) := by decide +kernel
theorem own_d1_20 : decode prog_14_method_1_code 20 = .ok (.lload 4, 2) := by decide +kernel
theorem own_d1_22 : decode prog_14_method_1_code 22 = .ok (.putfield 19, 3) := by decide +kernel
theorem own_d1_25 : decode prog_14_method_1_code 25 = .ok (.aload_n 0, 1) := by decide +kernel
theorem own_d1_26 : decode prog_14_method_1_code 26 = .ok (.lload 6, 2) := by decide +kernel
theorem own_d1_28 : decode prog_14_method_1_code 28 = .ok (.putfield 23, 3) := by decide +kernel
theorem own_d1_31 : decode prog_14_method_1_code 31 = .ok (.aload_n 0, 1) := by decide +kernel
theorem own_d1_32 : decode prog_14_method_1_code 32 = .ok (.lload 8, 2) := by decide +kernel
theorem own_d1_34 : decode prog_14_method_1_code 34 = .ok (.putfield 26, 3) := by decide +kernel
theorem own_d1_37 : decode prog_14_method_1_code 37 = .ok (.aload_n 0, 1) := by decide +kernel
theorem own_d1_38 : decode prog_14_method_1_code 38 = .ok (.lload 10, 2) := by decide +kernel
theorem own_d1_40 : decode prog_14_method_1_code 40 = .ok (.putfield 29, 3) := by decide +kernel
theorem own_d1_43 : decode prog_14_method_1_code 43 = .ok (.aload_n 0, 1) := by decide +kernel
theorem own_d1_44 : decode prog_14_method_1_code 44 = .ok (.lload 12, 2) := by decide +kernel
theorem own_d1_46 : decode prog_14_method_1_code 46 = .ok (.putfield 32, 3) := by decide +kernel
theorem own_d1_49 : decode prog_14_method_1_code 49 = .ok (.aload_n 0, 1) := by decide +kernel
theorem own_d1_50 : decode prog_14_method_1_code 50 = .ok (.lload 14, 2) := by decide +kernel
theorem own_d1_52 : decode prog_14_method_1_code 52 = .ok (.putfield 35, 3) := by decide +kernel
theorem own_d1_55 : decode prog_14_method_1_code 55 = .ok (.return_, 1) := by decide +kernel
theorem own_ef1 (m : MethodId) (a1_0 : Addr) (p1_1 : Int32) (p1_2 : Int32) (p1_3 : Int32) (q1_4 : Int64) (q1_5 : Int64) (q1_6 : Int64) (q1_7 : Int64) (q1_8 : Int64) (q1_9 : Int64) : entryFrame m #[(.ref a1_0), (.int p1_1), (.int p1_2), (.int p1_3), (.long q1_4), (.long q1_5), (.long q1_6), (.long q1_7), (.long q1_8), (.long q1_9)] 16 = mkF m 0 #[.val (.ref a1_0), .val (.int p1_1), .val (.int p1_2), .val (.int p1_3), .val (.long q1_4), .second, .val (.long q1_5), .second, .val (.long q1_6), .second, .val (.long q1_7), .second, .val (.long q1_8), .second, .val (.long q1_9), .second] [] := by first | (simp [entryFrame, mkF, argsToLocals, Value.category]; done) | rfl
def own_Q1 (Z : State) (a1_0 : Addr) (p1_1 : Int32) (p1_2 : Int32) (p1_3 : Int32) (q1_4 : Int64) (q1_5 : Int64) (q1_6 : Int64) (q1_7 : Int64) (q1_8 : Int64) (q1_9 : Int64) (w_inUse_a1_0 : Value) (w_idle_a1_0 : Value) (w_waiting_a1_0 : Value) (w_opened_a1_0 : Value) (w_closed_a1_0 : Value) (w_calls_a1_0 : Value) (w_timeouts_a1_0 : Value) (w_totalWaitMicros_a1_0 : Value) (w_longestWaitNanos_a1_0 : Value) (h0 : Heap) (n0 : Nat) (v : Option Value) (h : Heap) (L : List Loc) : Prop := v = none ∧ Fr n0 L ∧ Keep h0 h [a1_0] ∧ Exa Z h a1_0 "com/example/ostia/ostia/PoolStatus" ∧ Fld Z h a1_0 "com/example/ostia/ostia/PoolStatus" "inUse" "I" (.int p1_1) ∧ Fld Z h a1_0 "com/example/ostia/ostia/PoolStatus" "idle" "I" (.int p1_2) ∧ Fld Z h a1_0 "com/example/ostia/ostia/PoolStatus" "waiting" "I" (.int p1_3) ∧ Fld Z h a1_0 "com/example/ostia/ostia/PoolStatus" "opened" "J" (.long q1_4) ∧ Fld Z h a1_0 "com/example/ostia/ostia/PoolStatus" "closed" "J" (.long q1_5) ∧ Fld Z h a1_0 "com/example/ostia/ostia/PoolStatus" "calls" "J" (.long q1_6) ∧ Fld Z h a1_0 "com/example/ostia/ostia/PoolStatus" "timeouts" "J" (.long q1_7) ∧ Fld Z h a1_0 "com/example/ostia/ostia/PoolStatus" "totalWaitMicros" "J" (.long q1_8) ∧ Fld Z h a1_0 "com/example/ostia/ostia/PoolStatus" "longestWaitNanos" "J" (.long q1_9)
set_option maxRecDepth 65536 in
set_option maxHeartbeats 40000000 in
theorem own_rm1 (l : Launch) (Z : State) (a0 : Array Value) (hw : ∀ d ∈ tables_1, d.before a0 Z = true) (ws : List Jvm.Cond) (a1_0 : Addr) (p1_1 : Int32) (p1_2 : Int32) (p1_3 : Int32) (q1_4 : Int64) (q1_5 : Int64) (q1_6 : Int64) (q1_7 : Int64) (q1_8 : Int64) (q1_9 : Int64) (w_inUse_a1_0 : Value) (w_idle_a1_0 : Value) (w_waiting_a1_0 : Value) (w_opened_a1_0 : Value) (w_closed_a1_0 : Value) (w_calls_a1_0 : Value) (w_timeouts_a1_0 : Value) (w_totalWaitMicros_a1_0 : Value) (w_longestWaitNanos_a1_0 : Value) (h0 : Heap) (n0 : Nat) (Z0 : n0 ≤ h0.size) (E_a1_0 : Exa Z h0 a1_0 "com/example/ostia/ostia/PoolStatus") (F_inUse_a1_0 : Fld Z h0 a1_0 "com/example/ostia/ostia/PoolStatus" "inUse" "I" w_inUse_a1_0) (g_a1_0 : n0 ≤ a1_0) (F_idle_a1_0 : Fld Z h0 a1_0 "com/example/ostia/ostia/PoolStatus" "idle" "I" w_idle_a1_0) (F_waiting_a1_0 : Fld Z h0 a1_0 "com/example/ostia/ostia/PoolStatus" "waiting" "I" w_waiting_a1_0) (F_opened_a1_0 : Fld Z h0 a1_0 "com/example/ostia/ostia/PoolStatus" "opened" "J" w_opened_a1_0) (F_closed_a1_0 : Fld Z h0 a1_0 "com/example/ostia/ostia/PoolStatus" "closed" "J" w_closed_a1_0) (F_calls_a1_0 : Fld Z h0 a1_0 "com/example/ostia/ostia/PoolStatus" "calls" "J" w_calls_a1_0) (F_timeouts_a1_0 : Fld Z h0 a1_0 "com/example/ostia/ostia/PoolStatus" "timeouts" "J" w_timeouts_a1_0) (F_totalWaitMicros_a1_0 : Fld Z h0 a1_0 "com/example/ostia/ostia/PoolStatus" "totalWaitMicros" "J" w_totalWaitMicros_a1_0) (F_longestWaitNanos_a1_0 : Fld Z h0 a1_0 "com/example/ostia/ostia/PoolStatus" "longestWaitNanos" "J" w_longestWaitNanos_a1_0) :
    MetFree l (⟨"com/example/ostia/ostia/PoolStatus", "<init>", "(IIIJJJJJJ)V"⟩ : MethodName) (head1 (Jvm.Cond.code (⟨"com/example/ostia/ostia/PoolStatus", "<init>", "(IIIJJJJJJ)V"⟩ : MethodName) prog_14_method_1_code 16 none :: ws) ({ frames := 1, cells := 0, slots := 0, locals := 12 } : Room)) (fun a U => a = #[(.ref a1_0), (.int p1_1), (.int p1_2), (.int p1_3), (.long q1_4), (.long q1_5), (.long q1_6), (.long q1_7), (.long q1_8), (.long q1_9)] ∧ Z.Warmed39 U.vm ∧ U.heap = h0) (fun _ _ _ _ _ => True) (fun _ U o U' => ∃ v L, o = .returned v ∧ own_Q1 Z a1_0 p1_1 p1_2 p1_3 q1_4 q1_5 q1_6 q1_7 q1_8 q1_9 w_inUse_a1_0 w_idle_a1_0 w_waiting_a1_0 w_opened_a1_0 w_closed_a1_0 w_calls_a1_0 w_timeouts_a1_0 w_totalWaitMicros_a1_0 w_longestWaitNanos_a1_0 h0 n0 v U'.heap L ∧ FrameEnd U o U' L ({ frames := 1, cells := 0, slots := 0, locals := 12 } : Room).cells ({ frames := 1, cells := 0, slots := 0, locals := 12 } : Room).slots) := by
  refine MetFree.of_bodySF (plainFor_of_name own_pn0) hisR ?_
  intro p e s m args below meth c s₁ Bd hml0 hP hK
  obtain ⟨rfl, hZ, hh⟩ := hP
  have hx := Bd.exec
  have hby := Bd.bytes
  have hml : c.maxLocals = 16 := hml0
  have hown : s.vm.findClass "com/example/ostia/ostia/PoolStatus" = some m.cls := findClass_of_methodNamed Bd.named
  have hnm := (name_of_methodNamed Bd.named Bd.method).1
  have X0 : Stand p l e ({ frames := 1, cells := 0, slots := 0, locals := 12 } : Room) s m #[(.ref a1_0), (.int p1_1), (.int p1_2), (.int p1_3), (.long q1_4), (.long q1_5), (.long q1_6), (.long q1_7), (.long q1_8), (.long q1_9)] below meth c s₁ [] 0 0 := Stand.of_body Bd
  have e0 : s₁.heap = h0 := by rw [← hh, Bd.state]; rfl
  have N0 := Fr.nil n0
  have Zr : h0.size ≤ h0.size := Nat.le_refl _
  have pre0 : ∀ t, Steps p.tables e below (s₁.setTop (mkF m 0 #[.val (.ref a1_0), .val (.int p1_1), .val (.int p1_2), .val (.int p1_3), .val (.long q1_4), .second, .val (.long q1_5), .second, .val (.long q1_6), .second, .val (.long q1_7), .second, .val (.long q1_8), .second, .val (.long q1_9), .second] [])) t → Steps p.tables e below (s₁.setTop (entryFrame m #[(.ref a1_0), (.int p1_1), (.int p1_2), (.int p1_3), (.long q1_4), (.long q1_5), (.long q1_6), (.long q1_7), (.long q1_8), (.long q1_9)] 16)) t := fun t k => castTop (own_ef1 m a1_0 p1_1 p1_2 p1_3 q1_4 q1_5 q1_6 q1_7 q1_8 q1_9) k
  obtain ⟨Tn1_1, Xn1_1, en1_1, stn1_1⟩ := initO X0 hx hZ hown (hw _ (List.mem_of_getElem? (i := 8) rfl)) (hw _ (List.mem_of_getElem? (i := 9) rfl)) (hw _ (List.mem_of_getElem? (i := 10) rfl)) e0 (g := (mkF m 1 #[.val (.ref a1_0), .val (.int p1_1), .val (.int p1_2), .val (.int p1_3), .val (.long q1_4), .second, .val (.long q1_5), .second, .val (.long q1_6), .second, .val (.long q1_7), .second, .val (.long q1_8), .second, .val (.long q1_9), .second] [(.ref a1_0)])) rfl (by rw [hml]; rfl) rfl (hb hby own_d1_1) (by decide) (W := 0) (by show 2 * 0 + _ ≤ _; exact Nat.le_of_eq rfl) (by decide)
  obtain ⟨Tn1_2, hn1_2, Xn1_2, en1_2, Wn1_2, stn1_2⟩ := putF Xn1_1 hx hZ hown (host := "") (Or.inl (hw _ (List.mem_of_getElem? (i := 11) rfl))) Via.refl en1_1 F_inUse_a1_0 E_a1_0 (Or.inr ⟨(hw _ (List.mem_of_getElem? (i := 12) rfl)), rfl, hnm⟩) (hw _ (List.mem_of_getElem? (i := 3) rfl)) (ty := .int) (by decide) rfl rfl (g := (mkF m 6 #[.val (.ref a1_0), .val (.int p1_1), .val (.int p1_2), .val (.int p1_3), .val (.long q1_4), .second, .val (.long q1_5), .second, .val (.long q1_6), .second, .val (.long q1_7), .second, .val (.long q1_8), .second, .val (.long q1_9), .second] [(.int p1_1), (.ref a1_0)])) rfl rfl (hb hby own_d1_6)
  have Fwn1_2 : Fld Z hn1_2 a1_0 "com/example/ostia/ostia/PoolStatus" "inUse" "I" (.int p1_1) := F_inUse_a1_0.same Wn1_2
  have sz1_3 : h0.size ≤ hn1_2.size := Nat.le_trans Zr (Nat.le_of_eq Wn1_2.size.symm)
  have Nn1_2 := Fr.snoc Xn1_2 N0 g_a1_0
  have F1_4 := (E_a1_0.wr Wn1_2)
  have F1_5 := (F_idle_a1_0.other Wn1_2 (Or.inr (slot_ne (Or.inr (hw _ (List.mem_of_getElem? (i := 14) rfl))) (Or.inr (hw _ (List.mem_of_getElem? (i := 12) rfl))) (by decide) (t := .int) (t' := .int) (by decide) (by decide))))
  obtain ⟨Tn1_6, hn1_6, Xn1_6, en1_6, Wn1_6, stn1_6⟩ := putF Xn1_2 hx hZ hown (host := "") (Or.inl (hw _ (List.mem_of_getElem? (i := 13) rfl))) Via.refl en1_2 F1_5 F1_4 (Or.inr ⟨(hw _ (List.mem_of_getElem? (i := 14) rfl)), rfl, hnm⟩) (hw _ (List.mem_of_getElem? (i := 3) rfl)) (ty := .int) (by decide) rfl rfl (g := (mkF m 11 #[.val (.ref a1_0), .val (.int p1_1), .val (.int p1_2), .val (.int p1_3), .val (.long q1_4), .second, .val (.long q1_5), .second, .val (.long q1_6), .second, .val (.long q1_7), .second, .val (.long q1_8), .second, .val (.long q1_9), .second] [(.int p1_2), (.ref a1_0)])) rfl rfl (hb hby own_d1_11)
  have Fwn1_6 : Fld Z hn1_6 a1_0 "com/example/ostia/ostia/PoolStatus" "idle" "I" (.int p1_2) := F1_5.same Wn1_6
  have sz1_7 : h0.size ≤ hn1_6.size := Nat.le_trans sz1_3 (Nat.le_of_eq Wn1_6.size.symm)
  have Nn1_6 := Fr.snoc Xn1_6 Nn1_2 g_a1_0
  have F1_8 := (F1_4.wr Wn1_6)
  have F1_9 := ((F_waiting_a1_0.other Wn1_2 (Or.inr (slot_ne (Or.inr (hw _ (List.mem_of_getElem? (i := 16) rfl))) (Or.inr (hw _ (List.mem_of_getElem? (i := 12) rfl))) (by decide) (t := .int) (t' := .int) (by decide) (by decide)))).other Wn1_6 (Or.inr (slot_ne (Or.inr (hw _ (List.mem_of_getElem? (i := 16) rfl))) (Or.inr (hw _ (List.mem_of_getElem? (i := 14) rfl))) (by decide) (t := .int) (t' := .int) (by decide) (by decide))))
  obtain ⟨Tn1_10, hn1_10, Xn1_10, en1_10, Wn1_10, stn1_10⟩ := putF Xn1_6 hx hZ hown (host := "") (Or.inl (hw _ (List.mem_of_getElem? (i := 15) rfl))) Via.refl en1_6 F1_9 F1_8 (Or.inr ⟨(hw _ (List.mem_of_getElem? (i := 16) rfl)), rfl, hnm⟩) (hw _ (List.mem_of_getElem? (i := 3) rfl)) (ty := .int) (by decide) rfl rfl (g := (mkF m 16 #[.val (.ref a1_0), .val (.int p1_1), .val (.int p1_2), .val (.int p1_3), .val (.long q1_4), .second, .val (.long q1_5), .second, .val (.long q1_6), .second, .val (.long q1_7), .second, .val (.long q1_8), .second, .val (.long q1_9), .second] [(.int p1_3), (.ref a1_0)])) rfl rfl (hb hby own_d1_16)
  have Fwn1_10 : Fld Z hn1_10 a1_0 "com/example/ostia/ostia/PoolStatus" "waiting" "I" (.int p1_3) := F1_9.same Wn1_10
  have sz1_11 : h0.size ≤ hn1_10.size := Nat.le_trans sz1_7 (Nat.le_of_eq Wn1_10.size.symm)
  have Nn1_10 := Fr.snoc Xn1_10 Nn1_6 g_a1_0
  have F1_12 := (F1_8.wr Wn1_10)
  have F1_13 := (((F_opened_a1_0.other Wn1_2 (Or.inr (slot_ne (Or.inr (hw _ (List.mem_of_getElem? (i := 18) rfl))) (Or.inr (hw _ (List.mem_of_getElem? (i := 12) rfl))) (by decide) (t := .long) (t' := .int) (by decide) (by decide)))).other Wn1_6 (Or.inr (slot_ne (Or.inr (hw _ (List.mem_of_getElem? (i := 18) rfl))) (Or.inr (hw _ (List.mem_of_getElem? (i := 14) rfl))) (by decide) (t := .long) (t' := .int) (by decide) (by decide)))).other Wn1_10 (Or.inr (slot_ne (Or.inr (hw _ (List.mem_of_getElem? (i := 18) rfl))) (Or.inr (hw _ (List.mem_of_getElem? (i := 16) rfl))) (by decide) (t := .long) (t' := .int) (by decide) (by decide))))
  obtain ⟨Tn1_14, hn1_14, Xn1_14, en1_14, Wn1_14, stn1_14⟩ := putF Xn1_10 hx hZ hown (host := "") (Or.inl (hw _ (List.mem_of_getElem? (i := 17) rfl))) Via.refl en1_10 F1_13 F1_12 (Or.inr ⟨(hw _ (List.mem_of_getElem? (i := 18) rfl)), rfl, hnm⟩) (hw _ (List.mem_of_getElem? (i := 3) rfl)) (ty := .long) (by decide) rfl rfl (g := (mkF m 22 #[.val (.ref a1_0), .val (.int p1_1), .val (.int p1_2), .val (.int p1_3), .val (.long q1_4), .second, .val (.long q1_5), .second, .val (.long q1_6), .second, .val (.long q1_7), .second, .val (.long q1_8), .second, .val (.long q1_9), .second] [(.long q1_4), (.ref a1_0)])) rfl rfl (hb hby own_d1_22)
  have Fwn1_14 : Fld Z hn1_14 a1_0 "com/example/ostia/ostia/PoolStatus" "opened" "J" (.long q1_4) := F1_13.same Wn1_14
  have sz1_15 : h0.size ≤ hn1_14.size := Nat.le_trans sz1_11 (Nat.le_of_eq Wn1_14.size.symm)
  have Nn1_14 := Fr.snoc Xn1_14 Nn1_10 g_a1_0
  have F1_16 := (F1_12.wr Wn1_14)
  have F1_17 := ((((F_closed_a1_0.other Wn1_2 (Or.inr (slot_ne (Or.inr (hw _ (List.mem_of_getElem? (i := 20) rfl))) (Or.inr (hw _ (List.mem_of_getElem? (i := 12) rfl))) (by decide) (t := .long) (t' := .int) (by decide) (by decide)))).other Wn1_6 (Or.inr (slot_ne (Or.inr (hw _ (List.mem_of_getElem? (i := 20) rfl))) (Or.inr (hw _ (List.mem_of_getElem? (i := 14) rfl))) (by decide) (t := .long) (t' := .int) (by decide) (by decide)))).other Wn1_10 (Or.inr (slot_ne (Or.inr (hw _ (List.mem_of_getElem? (i := 20) rfl))) (Or.inr (hw _ (List.mem_of_getElem? (i := 16) rfl))) (by decide) (t := .long) (t' := .int) (by decide) (by decide)))).other Wn1_14 (Or.inr (slot_ne (Or.inr (hw _ (List.mem_of_getElem? (i := 20) rfl))) (Or.inr (hw _ (List.mem_of_getElem? (i := 18) rfl))) (by decide) (t := .long) (t' := .long) (by decide) (by decide))))
  obtain ⟨Tn1_18, hn1_18, Xn1_18, en1_18, Wn1_18, stn1_18⟩ := putF Xn1_14 hx hZ hown (host := "") (Or.inl (hw _ (List.mem_of_getElem? (i := 19) rfl))) Via.refl en1_14 F1_17 F1_16 (Or.inr ⟨(hw _ (List.mem_of_getElem? (i := 20) rfl)), rfl, hnm⟩) (hw _ (List.mem_of_getElem? (i := 3) rfl)) (ty := .long) (by decide) rfl rfl (g := (mkF m 28 #[.val (.ref a1_0), .val (.int p1_1), .val (.int p1_2), .val (.int p1_3), .val (.long q1_4), .second, .val (.long q1_5), .second, .val (.long q1_6), .second, .val (.long q1_7), .second, .val (.long q1_8), .second, .val (.long q1_9), .second] [(.long q1_5), (.ref a1_0)])) rfl rfl (hb hby own_d1_28)
  have Fwn1_18 : Fld Z hn1_18 a1_0 "com/example/ostia/ostia/PoolStatus" "closed" "J" (.long q1_5) := F1_17.same Wn1_18
  have sz1_19 : h0.size ≤ hn1_18.size := Nat.le_trans sz1_15 (Nat.le_of_eq Wn1_18.size.symm)
  have Nn1_18 := Fr.snoc Xn1_18 Nn1_14 g_a1_0
  have F1_20 := (F1_16.wr Wn1_18)
  have F1_21 := (((((F_calls_a1_0.other Wn1_2 (Or.inr (slot_ne (Or.inr (hw _ (List.mem_of_getElem? (i := 22) rfl))) (Or.inr (hw _ (List.mem_of_getElem? (i := 12) rfl))) (by decide) (t := .long) (t' := .int) (by decide) (by decide)))).other Wn1_6 (Or.inr (slot_ne (Or.inr (hw _ (List.mem_of_getElem? (i := 22) rfl))) (Or.inr (hw _ (List.mem_of_getElem? (i := 14) rfl))) (by decide) (t := .long) (t' := .int) (by decide) (by decide)))).other Wn1_10 (Or.inr (slot_ne (Or.inr (hw _ (List.mem_of_getElem? (i := 22) rfl))) (Or.inr (hw _ (List.mem_of_getElem? (i := 16) rfl))) (by decide) (t := .long) (t' := .int) (by decide) (by decide)))).other Wn1_14 (Or.inr (slot_ne (Or.inr (hw _ (List.mem_of_getElem? (i := 22) rfl))) (Or.inr (hw _ (List.mem_of_getElem? (i := 18) rfl))) (by decide) (t := .long) (t' := .long) (by decide) (by decide)))).other Wn1_18 (Or.inr (slot_ne (Or.inr (hw _ (List.mem_of_getElem? (i := 22) rfl))) (Or.inr (hw _ (List.mem_of_getElem? (i := 20) rfl))) (by decide) (t := .long) (t' := .long) (by decide) (by decide))))
  obtain ⟨Tn1_22, hn1_22, Xn1_22, en1_22, Wn1_22, stn1_22⟩ := putF Xn1_18 hx hZ hown (host := "") (Or.inl (hw _ (List.mem_of_getElem? (i := 21) rfl))) Via.refl en1_18 F1_21 F1_20 (Or.inr ⟨(hw _ (List.mem_of_getElem? (i := 22) rfl)), rfl, hnm⟩) (hw _ (List.mem_of_getElem? (i := 3) rfl)) (ty := .long) (by decide) rfl rfl (g := (mkF m 34 #[.val (.ref a1_0), .val (.int p1_1), .val (.int p1_2), .val (.int p1_3), .val (.long q1_4), .second, .val (.long q1_5), .second, .val (.long q1_6), .second, .val (.long q1_7), .second, .val (.long q1_8), .second, .val (.long q1_9), .second] [(.long q1_6), (.ref a1_0)])) rfl rfl (hb hby own_d1_34)
  have Fwn1_22 : Fld Z hn1_22 a1_0 "com/example/ostia/ostia/PoolStatus" "calls" "J" (.long q1_6) := F1_21.same Wn1_22
  have sz1_23 : h0.size ≤ hn1_22.size := Nat.le_trans sz1_19 (Nat.le_of_eq Wn1_22.size.symm)
  have Nn1_22 := Fr.snoc Xn1_22 Nn1_18 g_a1_0
  have F1_24 := (F1_20.wr Wn1_22)
  have F1_25 := ((((((F_timeouts_a1_0.other Wn1_2 (Or.inr (slot_ne (Or.inr (hw _ (List.mem_of_getElem? (i := 24) rfl))) (Or.inr (hw _ (List.mem_of_getElem? (i := 12) rfl))) (by decide) (t := .long) (t' := .int) (by decide) (by decide)))).other Wn1_6 (Or.inr (slot_ne (Or.inr (hw _ (List.mem_of_getElem? (i := 24) rfl))) (Or.inr (hw _ (List.mem_of_getElem? (i := 14) rfl))) (by decide) (t := .long) (t' := .int) (by decide) (by decide)))).other Wn1_10 (Or.inr (slot_ne (Or.inr (hw _ (List.mem_of_getElem? (i := 24) rfl))) (Or.inr (hw _ (List.mem_of_getElem? (i := 16) rfl))) (by decide) (t := .long) (t' := .int) (by decide) (by decide)))).other Wn1_14 (Or.inr (slot_ne (Or.inr (hw _ (List.mem_of_getElem? (i := 24) rfl))) (Or.inr (hw _ (List.mem_of_getElem? (i := 18) rfl))) (by decide) (t := .long) (t' := .long) (by decide) (by decide)))).other Wn1_18 (Or.inr (slot_ne (Or.inr (hw _ (List.mem_of_getElem? (i := 24) rfl))) (Or.inr (hw _ (List.mem_of_getElem? (i := 20) rfl))) (by decide) (t := .long) (t' := .long) (by decide) (by decide)))).other Wn1_22 (Or.inr (slot_ne (Or.inr (hw _ (List.mem_of_getElem? (i := 24) rfl))) (Or.inr (hw _ (List.mem_of_getElem? (i := 22) rfl))) (by decide) (t := .long) (t' := .long) (by decide) (by decide))))
  obtain ⟨Tn1_26, hn1_26, Xn1_26, en1_26, Wn1_26, stn1_26⟩ := putF Xn1_22 hx hZ hown (host := "") (Or.inl (hw _ (List.mem_of_getElem? (i := 23) rfl))) Via.refl en1_22 F1_25 F1_24 (Or.inr ⟨(hw _ (List.mem_of_getElem? (i := 24) rfl)), rfl, hnm⟩) (hw _ (List.mem_of_getElem? (i := 3) rfl)) (ty := .long) (by decide) rfl rfl (g := (mkF m 40 #[.val (.ref a1_0), .val (.int p1_1), .val (.int p1_2), .val (.int p1_3), .val (.long q1_4), .second, .val (.long q1_5), .second, .val (.long q1_6), .second, .val (.long q1_7), .second, .val (.long q1_8), .second, .val (.long q1_9), .second] [(.long q1_7), (.ref a1_0)])) rfl rfl (hb hby own_d1_40)
  have Fwn1_26 : Fld Z hn1_26 a1_0 "com/example/ostia/ostia/PoolStatus" "timeouts" "J" (.long q1_7) := F1_25.same Wn1_26
  have sz1_27 : h0.size ≤ hn1_26.size := Nat.le_trans sz1_23 (Nat.le_of_eq Wn1_26.size.symm)
  have Nn1_26 := Fr.snoc Xn1_26 Nn1_22 g_a1_0
  have F1_28 := (F1_24.wr Wn1_26)
  have F1_29 := (((((((F_totalWaitMicros_a1_0.other Wn1_2 (Or.inr (slot_ne (Or.inr (hw _ (List.mem_of_getElem? (i := 26) rfl))) (Or.inr (hw _ (List.mem_of_getElem? (i := 12) rfl))) (by decide) (t := .long) (t' := .int) (by decide) (by decide)))).other Wn1_6 (Or.inr (slot_ne (Or.inr (hw _ (List.mem_of_getElem? (i := 26) rfl))) (Or.inr (hw _ (List.mem_of_getElem? (i := 14) rfl))) (by decide) (t := .long) (t' := .int) (by decide) (by decide)))).other Wn1_10 (Or.inr (slot_ne (Or.inr (hw _ (List.mem_of_getElem? (i := 26) rfl))) (Or.inr (hw _ (List.mem_of_getElem? (i := 16) rfl))) (by decide) (t := .long) (t' := .int) (by decide) (by decide)))).other Wn1_14 (Or.inr (slot_ne (Or.inr (hw _ (List.mem_of_getElem? (i := 26) rfl))) (Or.inr (hw _ (List.mem_of_getElem? (i := 18) rfl))) (by decide) (t := .long) (t' := .long) (by decide) (by decide)))).other Wn1_18 (Or.inr (slot_ne (Or.inr (hw _ (List.mem_of_getElem? (i := 26) rfl))) (Or.inr (hw _ (List.mem_of_getElem? (i := 20) rfl))) (by decide) (t := .long) (t' := .long) (by decide) (by decide)))).other Wn1_22 (Or.inr (slot_ne (Or.inr (hw _ (List.mem_of_getElem? (i := 26) rfl))) (Or.inr (hw _ (List.mem_of_getElem? (i := 22) rfl))) (by decide) (t := .long) (t' := .long) (by decide) (by decide)))).other Wn1_26 (Or.inr (slot_ne (Or.inr (hw _ (List.mem_of_getElem? (i := 26) rfl))) (Or.inr (hw _ (List.mem_of_getElem? (i := 24) rfl))) (by decide) (t := .long) (t' := .long) (by decide) (by decide))))
  obtain ⟨Tn1_30, hn1_30, Xn1_30, en1_30, Wn1_30, stn1_30⟩ := putF Xn1_26 hx hZ hown (host := "") (Or.inl (hw _ (List.mem_of_getElem? (i := 25) rfl))) Via.refl en1_26 F1_29 F1_28 (Or.inr ⟨(hw _ (List.mem_of_getElem? (i := 26) rfl)), rfl, hnm⟩) (hw _ (List.mem_of_getElem? (i := 3) rfl)) (ty := .long) (by decide) rfl rfl (g := (mkF m 46 #[.val (.ref a1_0), .val (.int p1_1), .val (.int p1_2), .val (.int p1_3), .val (.long q1_4), .second, .val (.long q1_5), .second, .val (.long q1_6), .second, .val (.long q1_7), .second, .val (.long q1_8), .second, .val (.long q1_9), .second] [(.long q1_8), (.ref a1_0)])) rfl rfl (hb hby own_d1_46)
  have Fwn1_30 : Fld Z hn1_30 a1_0 "com/example/ostia/ostia/PoolStatus" "totalWaitMicros" "J" (.long q1_8) := F1_29.same Wn1_30
  have sz1_31 : h0.size ≤ hn1_30.size := Nat.le_trans sz1_27 (Nat.le_of_eq Wn1_30.size.symm)
  have Nn1_30 := Fr.snoc Xn1_30 Nn1_26 g_a1_0
  have F1_32 := (F1_28.wr Wn1_30)
  have F1_33 := ((((((((F_longestWaitNanos_a1_0.other Wn1_2 (Or.inr (slot_ne (Or.inr (hw _ (List.mem_of_getElem? (i := 28) rfl))) (Or.inr (hw _ (List.mem_of_getElem? (i := 12) rfl))) (by decide) (t := .long) (t' := .int) (by decide) (by decide)))).other Wn1_6 (Or.inr (slot_ne (Or.inr (hw _ (List.mem_of_getElem? (i := 28) rfl))) (Or.inr (hw _ (List.mem_of_getElem? (i := 14) rfl))) (by decide) (t := .long) (t' := .int) (by decide) (by decide)))).other Wn1_10 (Or.inr (slot_ne (Or.inr (hw _ (List.mem_of_getElem? (i := 28) rfl))) (Or.inr (hw _ (List.mem_of_getElem? (i := 16) rfl))) (by decide) (t := .long) (t' := .int) (by decide) (by decide)))).other Wn1_14 (Or.inr (slot_ne (Or.inr (hw _ (List.mem_of_getElem? (i := 28) rfl))) (Or.inr (hw _ (List.mem_of_getElem? (i := 18) rfl))) (by decide) (t := .long) (t' := .long) (by decide) (by decide)))).other Wn1_18 (Or.inr (slot_ne (Or.inr (hw _ (List.mem_of_getElem? (i := 28) rfl))) (Or.inr (hw _ (List.mem_of_getElem? (i := 20) rfl))) (by decide) (t := .long) (t' := .long) (by decide) (by decide)))).other Wn1_22 (Or.inr (slot_ne (Or.inr (hw _ (List.mem_of_getElem? (i := 28) rfl))) (Or.inr (hw _ (List.mem_of_getElem? (i := 22) rfl))) (by decide) (t := .long) (t' := .long) (by decide) (by decide)))).other Wn1_26 (Or.inr (slot_ne (Or.inr (hw _ (List.mem_of_getElem? (i := 28) rfl))) (Or.inr (hw _ (List.mem_of_getElem? (i := 24) rfl))) (by decide) (t := .long) (t' := .long) (by decide) (by decide)))).other Wn1_30 (Or.inr (slot_ne (Or.inr (hw _ (List.mem_of_getElem? (i := 28) rfl))) (Or.inr (hw _ (List.mem_of_getElem? (i := 26) rfl))) (by decide) (t := .long) (t' := .long) (by decide) (by decide))))
  obtain ⟨Tn1_34, hn1_34, Xn1_34, en1_34, Wn1_34, stn1_34⟩ := putF Xn1_30 hx hZ hown (host := "") (Or.inl (hw _ (List.mem_of_getElem? (i := 27) rfl))) Via.refl en1_30 F1_33 F1_32 (Or.inr ⟨(hw _ (List.mem_of_getElem? (i := 28) rfl)), rfl, hnm⟩) (hw _ (List.mem_of_getElem? (i := 3) rfl)) (ty := .long) (by decide) rfl rfl (g := (mkF m 52 #[.val (.ref a1_0), .val (.int p1_1), .val (.int p1_2), .val (.int p1_3), .val (.long q1_4), .second, .val (.long q1_5), .second, .val (.long q1_6), .second, .val (.long q1_7), .second, .val (.long q1_8), .second, .val (.long q1_9), .second] [(.long q1_9), (.ref a1_0)])) rfl rfl (hb hby own_d1_52)
  have Fwn1_34 : Fld Z hn1_34 a1_0 "com/example/ostia/ostia/PoolStatus" "longestWaitNanos" "J" (.long q1_9) := F1_33.same Wn1_34
  have sz1_35 : h0.size ≤ hn1_34.size := Nat.le_trans sz1_31 (Nat.le_of_eq Wn1_34.size.symm)
  have Nn1_34 := Fr.snoc Xn1_34 Nn1_30 g_a1_0
  obtain ⟨fs, hr, hrun, hended, hW, hsame⟩ := Xn1_34.leave (v := none) (fun _ => rfl)
  refine ⟨_, _, pre0 _ (?_), hrun, hended, _, _, rfl, ?_, ⟨_, rfl⟩, hW, hsame.mono (by decide) (by decide)⟩
  · show Steps p.tables e below (s₁.setTop (mkF m 0 #[.val (.ref a1_0), .val (.int p1_1), .val (.int p1_2), .val (.int p1_3), .val (.long q1_4), .second, .val (.long q1_5), .second, .val (.long q1_6), .second, .val (.long q1_7), .second, .val (.long q1_8), .second, .val (.long q1_9), .second] [])) _
    refine XS.aloadN X0.here hx rfl (hb hby own_d1_0) rfl rfl ?_
    show Steps p.tables e below (s₁.setTop (mkF m 1 #[.val (.ref a1_0), .val (.int p1_1), .val (.int p1_2), .val (.int p1_3), .val (.long q1_4), .second, .val (.long q1_5), .second, .val (.long q1_6), .second, .val (.long q1_7), .second, .val (.long q1_8), .second, .val (.long q1_9), .second] [(.ref a1_0)])) _
    refine stn1_1 _ ?_
    show Steps p.tables e below (Tn1_1.setTop (mkF m 4 #[.val (.ref a1_0), .val (.int p1_1), .val (.int p1_2), .val (.int p1_3), .val (.long q1_4), .second, .val (.long q1_5), .second, .val (.long q1_6), .second, .val (.long q1_7), .second, .val (.long q1_8), .second, .val (.long q1_9), .second] [])) _
    refine XS.aloadN Xn1_1.here hx rfl (hb hby own_d1_4) rfl rfl ?_
    show Steps p.tables e below (Tn1_1.setTop (mkF m 5 #[.val (.ref a1_0), .val (.int p1_1), .val (.int p1_2), .val (.int p1_3), .val (.long q1_4), .second, .val (.long q1_5), .second, .val (.long q1_6), .second, .val (.long q1_7), .second, .val (.long q1_8), .second, .val (.long q1_9), .second] [(.ref a1_0)])) _
    refine XS.iloadN Xn1_1.here hx rfl (hb hby own_d1_5) rfl ?_
    show Steps p.tables e below (Tn1_1.setTop (mkF m 6 #[.val (.ref a1_0), .val (.int p1_1), .val (.int p1_2), .val (.int p1_3), .val (.long q1_4), .second, .val (.long q1_5), .second, .val (.long q1_6), .second, .val (.long q1_7), .second, .val (.long q1_8), .second, .val (.long q1_9), .second] [(.int p1_1), (.ref a1_0)])) _
    refine stn1_2 _ ?_
    show Steps p.tables e below (Tn1_2.setTop (mkF m 9 #[.val (.ref a1_0), .val (.int p1_1), .val (.int p1_2), .val (.int p1_3), .val (.long q1_4), .second, .val (.long q1_5), .second, .val (.long q1_6), .second, .val (.long q1_7), .second, .val (.long q1_8), .second, .val (.long q1_9), .second] [])) _
    refine XS.aloadN Xn1_2.here hx rfl (hb hby own_d1_9) rfl rfl ?_
    show Steps p.tables e below (Tn1_2.setTop (mkF m 10 #[.val (.ref a1_0), .val (.int p1_1), .val (.int p1_2), .val (.int p1_3), .val (.long q1_4), .second, .val (.long q1_5), .second, .val (.long q1_6), .second, .val (.long q1_7), .second, .val (.long q1_8), .second, .val (.long q1_9), .second] [(.ref a1_0)])) _
    refine XS.iloadN Xn1_2.here hx rfl (hb hby own_d1_10) rfl ?_
    show Steps p.tables e below (Tn1_2.setTop (mkF m 11 #[.val (.ref a1_0), .val (.int p1_1), .val (.int p1_2), .val (.int p1_3), .val (.long q1_4), .second, .val (.long q1_5), .second, .val (.long q1_6), .second, .val (.long q1_7), .second, .val (.long q1_8), .second, .val (.long q1_9), .second] [(.int p1_2), (.ref a1_0)])) _
    refine stn1_6 _ ?_
    show Steps p.tables e below (Tn1_6.setTop (mkF m 14 #[.val (.ref a1_0), .val (.int p1_1), .val (.int p1_2), .val (.int p1_3), .val (.long q1_4), .second, .val (.long q1_5), .second, .val (.long q1_6), .second, .val (.long q1_7), .second, .val (.long q1_8), .second, .val (.long q1_9), .second] [])) _
    refine XS.aloadN Xn1_6.here hx rfl (hb hby own_d1_14) rfl rfl ?_
    show Steps p.tables e below (Tn1_6.setTop (mkF m 15 #[.val (.ref a1_0), .val (.int p1_1), .val (.int p1_2), .val (.int p1_3), .val (.long q1_4), .second, .val (.long q1_5), .second, .val (.long q1_6), .second, .val (.long q1_7), .second, .val (.long q1_8), .second, .val (.long q1_9), .second] [(.ref a1_0)])) _
    refine XS.iloadN Xn1_6.here hx rfl (hb hby own_d1_15) rfl ?_
    show Steps p.tables e below (Tn1_6.setTop (mkF m 16 #[.val (.ref a1_0), .val (.int p1_1), .val (.int p1_2), .val (.int p1_3), .val (.long q1_4), .second, .val (.long q1_5), .second, .val (.long q1_6), .second, .val (.long q1_7), .second, .val (.long q1_8), .second, .val (.long q1_9), .second] [(.int p1_3), (.ref a1_0)])) _
    refine stn1_10 _ ?_
    show Steps p.tables e below (Tn1_10.setTop (mkF m 19 #[.val (.ref a1_0), .val (.int p1_1), .val (.int p1_2), .val (.int p1_3), .val (.long q1_4), .second, .val (.long q1_5), .second, .val (.long q1_6), .second, .val (.long q1_7), .second, .val (.long q1_8), .second, .val (.long q1_9), .second] [])) _
    refine XS.aloadN Xn1_10.here hx rfl (hb hby own_d1_19) rfl rfl ?_
    show Steps p.tables e below (Tn1_10.setTop (mkF m 20 #[.val (.ref a1_0), .val (.int p1_1), .val (.int p1_2), .val (.int p1_3), .val (.long q1_4), .second, .val (.long q1_5), .second, .val (.long q1_6), .second, .val (.long q1_7), .second, .val (.long q1_8), .second, .val (.long q1_9), .second] [(.ref a1_0)])) _
    refine XT.lload Xn1_10.here hx rfl (hb hby own_d1_20) rfl ?_
    show Steps p.tables e below (Tn1_10.setTop (mkF m 22 #[.val (.ref a1_0), .val (.int p1_1), .val (.int p1_2), .val (.int p1_3), .val (.long q1_4), .second, .val (.long q1_5), .second, .val (.long q1_6), .second, .val (.long q1_7), .second, .val (.long q1_8), .second, .val (.long q1_9), .second] [(.long q1_4), (.ref a1_0)])) _
    refine stn1_14 _ ?_
    show Steps p.tables e below (Tn1_14.setTop (mkF m 25 #[.val (.ref a1_0), .val (.int p1_1), .val (.int p1_2), .val (.int p1_3), .val (.long q1_4), .second, .val (.long q1_5), .second, .val (.long q1_6), .second, .val (.long q1_7), .second, .val (.long q1_8), .second, .val (.long q1_9), .second] [])) _
    refine XS.aloadN Xn1_14.here hx rfl (hb hby own_d1_25) rfl rfl ?_
    show Steps p.tables e below (Tn1_14.setTop (mkF m 26 #[.val (.ref a1_0), .val (.int p1_1), .val (.int p1_2), .val (.int p1_3), .val (.long q1_4), .second, .val (.long q1_5), .second, .val (.long q1_6), .second, .val (.long q1_7), .second, .val (.long q1_8), .second, .val (.long q1_9), .second] [(.ref a1_0)])) _
    refine XT.lload Xn1_14.here hx rfl (hb hby own_d1_26) rfl ?_
    show Steps p.tables e below (Tn1_14.setTop (mkF m 28 #[.val (.ref a1_0), .val (.int p1_1), .val (.int p1_2), .val (.int p1_3), .val (.long q1_4), .second, .val (.long q1_5), .second, .val (.long q1_6), .second, .val (.long q1_7), .second, .val (.long q1_8), .second, .val (.long q1_9), .second] [(.long q1_5), (.ref a1_0)])) _
    refine stn1_18 _ ?_
    show Steps p.tables e below (Tn1_18.setTop (mkF m 31 #[.val (.ref a1_0), .val (.int p1_1), .val (.int p1_2), .val (.int p1_3), .val (.long q1_4), .second, .val (.long q1_5), .second, .val (.long q1_6), .second, .val (.long q1_7), .second, .val (.long q1_8), .second, .val (.long q1_9), .second] [])) _
    refine XS.aloadN Xn1_18.here hx rfl (hb hby own_d1_31) rfl rfl ?_
    show Steps p.tables e below (Tn1_18.setTop (mkF m 32 #[.val (.ref a1_0), .val (.int p1_1), .val (.int p1_2), .val (.int p1_3), .val (.long q1_4), .second, .val (.long q1_5), .second, .val (.long q1_6), .second, .val (.long q1_7), .second, .val (.long q1_8), .second, .val (.long q1_9), .second] [(.ref a1_0)])) _
    refine XT.lload Xn1_18.here hx rfl (hb hby own_d1_32) rfl ?_
    show Steps p.tables e below (Tn1_18.setTop (mkF m 34 #[.val (.ref a1_0), .val (.int p1_1), .val (.int p1_2), .val (.int p1_3), .val (.long q1_4), .second, .val (.long q1_5), .second, .val (.long q1_6), .second, .val (.long q1_7), .second, .val (.long q1_8), .second, .val (.long q1_9), .second] [(.long q1_6), (.ref a1_0)])) _
    refine stn1_22 _ ?_
    show Steps p.tables e below (Tn1_22.setTop (mkF m 37 #[.val (.ref a1_0), .val (.int p1_1), .val (.int p1_2), .val (.int p1_3), .val (.long q1_4), .second, .val (.long q1_5), .second, .val (.long q1_6), .second, .val (.long q1_7), .second, .val (.long q1_8), .second, .val (.long q1_9), .second] [])) _
    refine XS.aloadN Xn1_22.here hx rfl (hb hby own_d1_37) rfl rfl ?_
    show Steps p.tables e below (Tn1_22.setTop (mkF m 38 #[.val (.ref a1_0), .val (.int p1_1), .val (.int p1_2), .val (.int p1_3), .val (.long q1_4), .second, .val (.long q1_5), .second, .val (.long q1_6), .second, .val (.long q1_7), .second, .val (.long q1_8), .second, .val (.long q1_9), .second] [(.ref a1_0)])) _
    refine XT.lload Xn1_22.here hx rfl (hb hby own_d1_38) rfl ?_
    show Steps p.tables e below (Tn1_22.setTop (mkF m 40 #[.val (.ref a1_0), .val (.int p1_1), .val (.int p1_2), .val (.int p1_3), .val (.long q1_4), .second, .val (.long q1_5), .second, .val (.long q1_6), .second, .val (.long q1_7), .second, .val (.long q1_8), .second, .val (.long q1_9), .second] [(.long q1_7), (.ref a1_0)])) _
    refine stn1_26 _ ?_
    show Steps p.tables e below (Tn1_26.setTop (mkF m 43 #[.val (.ref a1_0), .val (.int p1_1), .val (.int p1_2), .val (.int p1_3), .val (.long q1_4), .second, .val (.long q1_5), .second, .val (.long q1_6), .second, .val (.long q1_7), .second, .val (.long q1_8), .second, .val (.long q1_9), .second] [])) _
    refine XS.aloadN Xn1_26.here hx rfl (hb hby own_d1_43) rfl rfl ?_
    show Steps p.tables e below (Tn1_26.setTop (mkF m 44 #[.val (.ref a1_0), .val (.int p1_1), .val (.int p1_2), .val (.int p1_3), .val (.long q1_4), .second, .val (.long q1_5), .second, .val (.long q1_6), .second, .val (.long q1_7), .second, .val (.long q1_8), .second, .val (.long q1_9), .second] [(.ref a1_0)])) _
    refine XT.lload Xn1_26.here hx rfl (hb hby own_d1_44) rfl ?_
    show Steps p.tables e below (Tn1_26.setTop (mkF m 46 #[.val (.ref a1_0), .val (.int p1_1), .val (.int p1_2), .val (.int p1_3), .val (.long q1_4), .second, .val (.long q1_5), .second, .val (.long q1_6), .second, .val (.long q1_7), .second, .val (.long q1_8), .second, .val (.long q1_9), .second] [(.long q1_8), (.ref a1_0)])) _
    refine stn1_30 _ ?_
    show Steps p.tables e below (Tn1_30.setTop (mkF m 49 #[.val (.ref a1_0), .val (.int p1_1), .val (.int p1_2), .val (.int p1_3), .val (.long q1_4), .second, .val (.long q1_5), .second, .val (.long q1_6), .second, .val (.long q1_7), .second, .val (.long q1_8), .second, .val (.long q1_9), .second] [])) _
    refine XS.aloadN Xn1_30.here hx rfl (hb hby own_d1_49) rfl rfl ?_
    show Steps p.tables e below (Tn1_30.setTop (mkF m 50 #[.val (.ref a1_0), .val (.int p1_1), .val (.int p1_2), .val (.int p1_3), .val (.long q1_4), .second, .val (.long q1_5), .second, .val (.long q1_6), .second, .val (.long q1_7), .second, .val (.long q1_8), .second, .val (.long q1_9), .second] [(.ref a1_0)])) _
    refine XT.lload Xn1_30.here hx rfl (hb hby own_d1_50) rfl ?_
    show Steps p.tables e below (Tn1_30.setTop (mkF m 52 #[.val (.ref a1_0), .val (.int p1_1), .val (.int p1_2), .val (.int p1_3), .val (.long q1_4), .second, .val (.long q1_5), .second, .val (.long q1_6), .second, .val (.long q1_7), .second, .val (.long q1_8), .second, .val (.long q1_9), .second] [(.long q1_9), (.ref a1_0)])) _
    refine stn1_34 _ ?_
    show Steps p.tables e below (Tn1_34.setTop (mkF m 55 #[.val (.ref a1_0), .val (.int p1_1), .val (.int p1_2), .val (.int p1_3), .val (.long q1_4), .second, .val (.long q1_5), .second, .val (.long q1_6), .second, .val (.long q1_7), .second, .val (.long q1_8), .second, .val (.long q1_9), .second] [])) _
    exact Xn1_34.returnOut hx Bd.returns (hb hby own_d1_55) hr
  · show own_Q1 Z a1_0 p1_1 p1_2 p1_3 q1_4 q1_5 q1_6 q1_7 q1_8 q1_9 w_inUse_a1_0 w_idle_a1_0 w_waiting_a1_0 w_opened_a1_0 w_closed_a1_0 w_calls_a1_0 w_timeouts_a1_0 w_totalWaitMicros_a1_0 w_longestWaitNanos_a1_0 h0 n0 _ Tn1_34.heap _
    rw [en1_34]
    exact ⟨rfl, Nn1_34, ((((((((((Keep.refl h0 [a1_0]).wr Wn1_2 (Or.inl (List.mem_of_getElem? (i := 0) rfl))).wr Wn1_6 (Or.inl (List.mem_of_getElem? (i := 0) rfl))).wr Wn1_10 (Or.inl (List.mem_of_getElem? (i := 0) rfl))).wr Wn1_14 (Or.inl (List.mem_of_getElem? (i := 0) rfl))).wr Wn1_18 (Or.inl (List.mem_of_getElem? (i := 0) rfl))).wr Wn1_22 (Or.inl (List.mem_of_getElem? (i := 0) rfl))).wr Wn1_26 (Or.inl (List.mem_of_getElem? (i := 0) rfl))).wr Wn1_30 (Or.inl (List.mem_of_getElem? (i := 0) rfl))).wr Wn1_34 (Or.inl (List.mem_of_getElem? (i := 0) rfl))), (F1_32.wr Wn1_34), ((((((((Fwn1_2.other Wn1_6 (Or.inr (slot_ne (Or.inr (hw _ (List.mem_of_getElem? (i := 12) rfl))) (Or.inr (hw _ (List.mem_of_getElem? (i := 14) rfl))) (by decide) (t := .int) (t' := .int) (by decide) (by decide)))).other Wn1_10 (Or.inr (slot_ne (Or.inr (hw _ (List.mem_of_getElem? (i := 12) rfl))) (Or.inr (hw _ (List.mem_of_getElem? (i := 16) rfl))) (by decide) (t := .int) (t' := .int) (by decide) (by decide)))).other Wn1_14 (Or.inr (slot_ne (Or.inr (hw _ (List.mem_of_getElem? (i := 12) rfl))) (Or.inr (hw _ (List.mem_of_getElem? (i := 18) rfl))) (by decide) (t := .int) (t' := .long) (by decide) (by decide)))).other Wn1_18 (Or.inr (slot_ne (Or.inr (hw _ (List.mem_of_getElem? (i := 12) rfl))) (Or.inr (hw _ (List.mem_of_getElem? (i := 20) rfl))) (by decide) (t := .int) (t' := .long) (by decide) (by decide)))).other Wn1_22 (Or.inr (slot_ne (Or.inr (hw _ (List.mem_of_getElem? (i := 12) rfl))) (Or.inr (hw _ (List.mem_of_getElem? (i := 22) rfl))) (by decide) (t := .int) (t' := .long) (by decide) (by decide)))).other Wn1_26 (Or.inr (slot_ne (Or.inr (hw _ (List.mem_of_getElem? (i := 12) rfl))) (Or.inr (hw _ (List.mem_of_getElem? (i := 24) rfl))) (by decide) (t := .int) (t' := .long) (by decide) (by decide)))).other Wn1_30 (Or.inr (slot_ne (Or.inr (hw _ (List.mem_of_getElem? (i := 12) rfl))) (Or.inr (hw _ (List.mem_of_getElem? (i := 26) rfl))) (by decide) (t := .int) (t' := .long) (by decide) (by decide)))).other Wn1_34 (Or.inr (slot_ne (Or.inr (hw _ (List.mem_of_getElem? (i := 12) rfl))) (Or.inr (hw _ (List.mem_of_getElem? (i := 28) rfl))) (by decide) (t := .int) (t' := .long) (by decide) (by decide)))), (((((((Fwn1_6.other Wn1_10 (Or.inr (slot_ne (Or.inr (hw _ (List.mem_of_getElem? (i := 14) rfl))) (Or.inr (hw _ (List.mem_of_getElem? (i := 16) rfl))) (by decide) (t := .int) (t' := .int) (by decide) (by decide)))).other Wn1_14 (Or.inr (slot_ne (Or.inr (hw _ (List.mem_of_getElem? (i := 14) rfl))) (Or.inr (hw _ (List.mem_of_getElem? (i := 18) rfl))) (by decide) (t := .int) (t' := .long) (by decide) (by decide)))).other Wn1_18 (Or.inr (slot_ne (Or.inr (hw _ (List.mem_of_getElem? (i := 14) rfl))) (Or.inr (hw _ (List.mem_of_getElem? (i := 20) rfl))) (by decide) (t := .int) (t' := .long) (by decide) (by decide)))).other Wn1_22 (Or.inr (slot_ne (Or.inr (hw _ (List.mem_of_getElem? (i := 14) rfl))) (Or.inr (hw _ (List.mem_of_getElem? (i := 22) rfl))) (by decide) (t := .int) (t' := .long) (by decide) (by decide)))).other Wn1_26 (Or.inr (slot_ne (Or.inr (hw _ (List.mem_of_getElem? (i := 14) rfl))) (Or.inr (hw _ (List.mem_of_getElem? (i := 24) rfl))) (by decide) (t := .int) (t' := .long) (by decide) (by decide)))).other Wn1_30 (Or.inr (slot_ne (Or.inr (hw _ (List.mem_of_getElem? (i := 14) rfl))) (Or.inr (hw _ (List.mem_of_getElem? (i := 26) rfl))) (by decide) (t := .int) (t' := .long) (by decide) (by decide)))).other Wn1_34 (Or.inr (slot_ne (Or.inr (hw _ (List.mem_of_getElem? (i := 14) rfl))) (Or.inr (hw _ (List.mem_of_getElem? (i := 28) rfl))) (by decide) (t := .int) (t' := .long) (by decide) (by decide)))), ((((((Fwn1_10.other Wn1_14 (Or.inr (slot_ne (Or.inr (hw _ (List.mem_of_getElem? (i := 16) rfl))) (Or.inr (hw _ (List.mem_of_getElem? (i := 18) rfl))) (by decide) (t := .int) (t' := .long) (by decide) (by decide)))).other Wn1_18 (Or.inr (slot_ne (Or.inr (hw _ (List.mem_of_getElem? (i := 16) rfl))) (Or.inr (hw _ (List.mem_of_getElem? (i := 20) rfl))) (by decide) (t := .int) (t' := .long) (by decide) (by decide)))).other Wn1_22 (Or.inr (slot_ne (Or.inr (hw _ (List.mem_of_getElem? (i := 16) rfl))) (Or.inr (hw _ (List.mem_of_getElem? (i := 22) rfl))) (by decide) (t := .int) (t' := .long) (by decide) (by decide)))).other Wn1_26 (Or.inr (slot_ne (Or.inr (hw _ (List.mem_of_getElem? (i := 16) rfl))) (Or.inr (hw _ (List.mem_of_getElem? (i := 24) rfl))) (by decide) (t := .int) (t' := .long) (by decide) (by decide)))).other Wn1_30 (Or.inr (slot_ne (Or.inr (hw _ (List.mem_of_getElem? (i := 16) rfl))) (Or.inr (hw _ (List.mem_of_getElem? (i := 26) rfl))) (by decide) (t := .int) (t' := .long) (by decide) (by decide)))).other Wn1_34 (Or.inr (slot_ne (Or.inr (hw _ (List.mem_of_getElem? (i := 16) rfl))) (Or.inr (hw _ (List.mem_of_getElem? (i := 28) rfl))) (by decide) (t := .int) (t' := .long) (by decide) (by decide)))), (((((Fwn1_14.other Wn1_18 (Or.inr (slot_ne (Or.inr (hw _ (List.mem_of_getElem? (i := 18) rfl))) (Or.inr (hw _ (List.mem_of_getElem? (i := 20) rfl))) (by decide) (t := .long) (t' := .long) (by decide) (by decide)))).other Wn1_22 (Or.inr (slot_ne (Or.inr (hw _ (List.mem_of_getElem? (i := 18) rfl))) (Or.inr (hw _ (List.mem_of_getElem? (i := 22) rfl))) (by decide) (t := .long) (t' := .long) (by decide) (by decide)))).other Wn1_26 (Or.inr (slot_ne (Or.inr (hw _ (List.mem_of_getElem? (i := 18) rfl))) (Or.inr (hw _ (List.mem_of_getElem? (i := 24) rfl))) (by decide) (t := .long) (t' := .long) (by decide) (by decide)))).other Wn1_30 (Or.inr (slot_ne (Or.inr (hw _ (List.mem_of_getElem? (i := 18) rfl))) (Or.inr (hw _ (List.mem_of_getElem? (i := 26) rfl))) (by decide) (t := .long) (t' := .long) (by decide) (by decide)))).other Wn1_34 (Or.inr (slot_ne (Or.inr (hw _ (List.mem_of_getElem? (i := 18) rfl))) (Or.inr (hw _ (List.mem_of_getElem? (i := 28) rfl))) (by decide) (t := .long) (t' := .long) (by decide) (by decide)))), ((((Fwn1_18.other Wn1_22 (Or.inr (slot_ne (Or.inr (hw _ (List.mem_of_getElem? (i := 20) rfl))) (Or.inr (hw _ (List.mem_of_getElem? (i := 22) rfl))) (by decide) (t := .long) (t' := .long) (by decide) (by decide)))).other Wn1_26 (Or.inr (slot_ne (Or.inr (hw _ (List.mem_of_getElem? (i := 20) rfl))) (Or.inr (hw _ (List.mem_of_getElem? (i := 24) rfl))) (by decide) (t := .long) (t' := .long) (by decide) (by decide)))).other Wn1_30 (Or.inr (slot_ne (Or.inr (hw _ (List.mem_of_getElem? (i := 20) rfl))) (Or.inr (hw _ (List.mem_of_getElem? (i := 26) rfl))) (by decide) (t := .long) (t' := .long) (by decide) (by decide)))).other Wn1_34 (Or.inr (slot_ne (Or.inr (hw _ (List.mem_of_getElem? (i := 20) rfl))) (Or.inr (hw _ (List.mem_of_getElem? (i := 28) rfl))) (by decide) (t := .long) (t' := .long) (by decide) (by decide)))), (((Fwn1_22.other Wn1_26 (Or.inr (slot_ne (Or.inr (hw _ (List.mem_of_getElem? (i := 22) rfl))) (Or.inr (hw _ (List.mem_of_getElem? (i := 24) rfl))) (by decide) (t := .long) (t' := .long) (by decide) (by decide)))).other Wn1_30 (Or.inr (slot_ne (Or.inr (hw _ (List.mem_of_getElem? (i := 22) rfl))) (Or.inr (hw _ (List.mem_of_getElem? (i := 26) rfl))) (by decide) (t := .long) (t' := .long) (by decide) (by decide)))).other Wn1_34 (Or.inr (slot_ne (Or.inr (hw _ (List.mem_of_getElem? (i := 22) rfl))) (Or.inr (hw _ (List.mem_of_getElem? (i := 28) rfl))) (by decide) (t := .long) (t' := .long) (by decide) (by decide)))), ((Fwn1_26.other Wn1_30 (Or.inr (slot_ne (Or.inr (hw _ (List.mem_of_getElem? (i := 24) rfl))) (Or.inr (hw _ (List.mem_of_getElem? (i := 26) rfl))) (by decide) (t := .long) (t' := .long) (by decide) (by decide)))).other Wn1_34 (Or.inr (slot_ne (Or.inr (hw _ (List.mem_of_getElem? (i := 24) rfl))) (Or.inr (hw _ (List.mem_of_getElem? (i := 28) rfl))) (by decide) (t := .long) (t' := .long) (by decide) (by decide)))), (Fwn1_30.other Wn1_34 (Or.inr (slot_ne (Or.inr (hw _ (List.mem_of_getElem? (i := 26) rfl))) (Or.inr (hw _ (List.mem_of_getElem? (i := 28) rfl))) (by decide) (t := .long) (t' := .long) (by decide) (by decide)))), Fwn1_34⟩
theorem own_d3_0 : decode prog_14_method_9_code 0 = .ok (.dconst 0, 1) := by decide +kernel
theorem own_d3_1 : decode prog_14_method_9_code 1 = .ok (.dstore_n 1, 1) := by decide +kernel
theorem own_d3_2 : decode prog_14_method_9_code 2 = .ok (.aload_n 0, 1) := by decide +kernel
theorem own_d3_3 : decode prog_14_method_9_code 3 = .ok (.getfield 26, 3) := by decide +kernel
theorem own_d3_6 : decode prog_14_method_9_code 6 = .ok (.lconst 0, 1) := by decide +kernel
theorem own_d3_7 : decode prog_14_method_9_code 7 = .ok (.lcmp, 1) := by decide +kernel
theorem own_d3_8 : decode prog_14_method_9_code 8 = .ok (.ifCond .le 19, 3) := by decide +kernel
theorem own_d3_11 : decode prog_14_method_9_code 11 = .ok (.aload_n 0, 1) := by decide +kernel
theorem own_d3_12 : decode prog_14_method_9_code 12 = .ok (.getfield 32, 3) := by decide +kernel
theorem own_d3_15 : decode prog_14_method_9_code 15 = .ok (.l2d, 1) := by decide +kernel
theorem own_d3_16 : decode prog_14_method_9_code 16 = .ok (.ldc2_w 48, 3) := by decide +kernel
theorem own_d3_19 : decode prog_14_method_9_code 19 = .ok (.ddiv, 1) := by decide +kernel
theorem own_d3_20 : decode prog_14_method_9_code 20 = .ok (.aload_n 0, 1) := by decide +kernel
theorem own_d3_21 : decode prog_14_method_9_code 21 = .ok (.getfield 26, 3) := by decide +kernel
theorem own_d3_24 : decode prog_14_method_9_code 24 = .ok (.l2d, 1) := by decide +kernel
theorem own_d3_25 : decode prog_14_method_9_code 25 = .ok (.ddiv, 1) := by decide +kernel
theorem own_d3_26 : decode prog_14_method_9_code 26 = .ok (.dstore_n 1, 1) := by decide +kernel
theorem own_d3_27 : decode prog_14_method_9_code 27 = .ok (.dload_n 1, 1) := by decide +kernel
theorem own_d3_28 : decode prog_14_method_9_code 28 = .ok (.dreturn, 1) := by decide +kernel
def own_v3_0 (w_calls_a3_0 : Int64) (w_totalWaitMicros_a3_0 : Int64) : UInt64 := (FP.ddiv (FP.ddiv (FP.l2d w_totalWaitMicros_a3_0) (4652007308841189376 : UInt64)) (FP.l2d w_calls_a3_0))
def own_j3_1 (w_calls_a3_0 : Int64) (w_totalWaitMicros_a3_0 : Int64) : UInt64 := if (0 : Int64) < w_calls_a3_0 then (own_v3_0 w_calls_a3_0 w_totalWaitMicros_a3_0) else (0 : UInt64)
def own_r3_2 (w_calls_a3_0 : Int64) (w_totalWaitMicros_a3_0 : Int64) : UInt64 := (own_j3_1 w_calls_a3_0 w_totalWaitMicros_a3_0)
theorem own_ef3 (m : MethodId) (a3_0 : Addr) : entryFrame m #[(.ref a3_0)] 3 = mkF m 0 #[.val (.ref a3_0), .unset, .unset] [] := by first | (simp [entryFrame, mkF, argsToLocals, Value.category]; done) | rfl
def own_Q3 (Z : State) (a3_0 : Addr) (w_calls_a3_0 : Int64) (w_totalWaitMicros_a3_0 : Int64) (h0 : Heap) (n0 : Nat) (v : Option Value) (h : Heap) (L : List Loc) : Prop := v = some (.double (own_r3_2 w_calls_a3_0 w_totalWaitMicros_a3_0)) ∧ Fr n0 L ∧ h = h0
set_option maxRecDepth 65536 in
set_option maxHeartbeats 40000000 in
theorem own_rm3 (l : Launch) (Z : State) (a0 : Array Value) (hw : ∀ d ∈ tables_1, d.before a0 Z = true) (ws : List Jvm.Cond) (a3_0 : Addr) (w_calls_a3_0 : Int64) (w_totalWaitMicros_a3_0 : Int64) (h0 : Heap) (n0 : Nat) (Z0 : n0 ≤ h0.size) (F_calls_a3_0 : Fld Z h0 a3_0 "com/example/ostia/ostia/PoolStatus" "calls" "J" (.long w_calls_a3_0)) (F_totalWaitMicros_a3_0 : Fld Z h0 a3_0 "com/example/ostia/ostia/PoolStatus" "totalWaitMicros" "J" (.long w_totalWaitMicros_a3_0)) (nn19 : (0 : Int64) < w_calls_a3_0 → NoNaN64 (FP.ddiv (FP.l2d w_totalWaitMicros_a3_0) (4652007308841189376 : UInt64))) (nn25 : (0 : Int64) < w_calls_a3_0 → NoNaN64 (FP.ddiv (FP.ddiv (FP.l2d w_totalWaitMicros_a3_0) (4652007308841189376 : UInt64)) (FP.l2d w_calls_a3_0))) :
    MetFree l (⟨"com/example/ostia/ostia/PoolStatus", "averageWaitMillis", "()D"⟩ : MethodName) (head1 (Jvm.Cond.code (⟨"com/example/ostia/ostia/PoolStatus", "averageWaitMillis", "()D"⟩ : MethodName) prog_14_method_9_code 3 (some .double) :: ws) ({ frames := 0, cells := 0, slots := 0, locals := 0 } : Room)) (fun a U => a = #[(.ref a3_0)] ∧ Z.Warmed39 U.vm ∧ U.heap = h0) (fun _ _ _ _ _ => True) (fun _ U o U' => ∃ v L, o = .returned v ∧ own_Q3 Z a3_0 w_calls_a3_0 w_totalWaitMicros_a3_0 h0 n0 v U'.heap L ∧ FrameEnd U o U' L ({ frames := 0, cells := 0, slots := 0, locals := 0 } : Room).cells ({ frames := 0, cells := 0, slots := 0, locals := 0 } : Room).slots) := by
  refine MetFree.of_bodySF (plainFor_of_name own_pn0) hisR ?_
  intro p e s m args below meth c s₁ Bd hml0 hP hK
  obtain ⟨rfl, hZ, hh⟩ := hP
  have hx := Bd.exec
  have hby := Bd.bytes
  have hml : c.maxLocals = 3 := hml0
  have hown : s.vm.findClass "com/example/ostia/ostia/PoolStatus" = some m.cls := findClass_of_methodNamed Bd.named
  have hnm := (name_of_methodNamed Bd.named Bd.method).1
  have X0 : Stand p l e ({ frames := 0, cells := 0, slots := 0, locals := 0 } : Room) s m #[(.ref a3_0)] below meth c s₁ [] 0 0 := Stand.of_body Bd
  have e0 : s₁.heap = h0 := by rw [← hh, Bd.state]; rfl
  have N0 := Fr.nil n0
  have Zr : h0.size ≤ h0.size := Nat.le_refl _
  have pre0 : ∀ t, Steps p.tables e below (s₁.setTop (mkF m 0 #[.val (.ref a3_0), .unset, .unset] [])) t → Steps p.tables e below (s₁.setTop (entryFrame m #[(.ref a3_0)] 3)) t := fun t k => castTop (own_ef3 m a3_0) k
  obtain ⟨Tn3_1, Xn3_1, en3_1, stn3_1⟩ := getF X0 hx hZ hown (host := "") (Or.inl (hw _ (List.mem_of_getElem? (i := 21) rfl))) Via.refl e0 F_calls_a3_0 (g := (mkF m 3 #[.val (.ref a3_0), .val (.double (0 : UInt64)), .second] [(.ref a3_0)])) rfl rfl (hb hby own_d3_3)
  obtain ⟨Tj3_2, lj3_2, Xj3_2, Nj3_2, ej3_2, stj3_2⟩ : ∃ (T' : State) (l' : List Loc), Stand p l e ({ frames := 0, cells := 0, slots := 0, locals := 0 } : Room) s m #[(.ref a3_0)] below meth c T' l' 0 0 ∧ Fr n0 l' ∧ T'.heap = h0 ∧ ∀ target, Steps p.tables e below (T'.setTop (mkF m 27 #[.val (.ref a3_0), .val (.double (own_j3_1 w_calls_a3_0 w_totalWaitMicros_a3_0)), .second] [])) target → Steps p.tables e below (Tn3_1.setTop (mkF m 8 #[.val (.ref a3_0), .val (.double (0 : UInt64)), .second] [(.int (XT.cmpL w_calls_a3_0 (0 : Int64)))])) target := by
    by_cases hj3_2 : (0 : Int64) < w_calls_a3_0
    · obtain ⟨Tn3_3, Xn3_3, en3_3, stn3_3⟩ := getF Xn3_1 hx hZ hown (host := "") (Or.inl (hw _ (List.mem_of_getElem? (i := 25) rfl))) Via.refl en3_1 F_totalWaitMicros_a3_0 (g := (mkF m 12 #[.val (.ref a3_0), .val (.double (0 : UInt64)), .second] [(.ref a3_0)])) rfl rfl (hb hby own_d3_12)
      obtain ⟨Tn3_4, Xn3_4, en3_4, stn3_4⟩ := getF Xn3_3 hx hZ hown (host := "") (Or.inl (hw _ (List.mem_of_getElem? (i := 21) rfl))) Via.refl en3_3 F_calls_a3_0 (g := (mkF m 21 #[.val (.ref a3_0), .val (.double (0 : UInt64)), .second] [(.ref a3_0), (.double (FP.ddiv (FP.l2d w_totalWaitMicros_a3_0) (4652007308841189376 : UInt64)))])) rfl rfl (hb hby own_d3_21)
      refine ⟨_, _, Xn3_4, N0, en3_4, fun target kt => ?_⟩
      rw [(show (own_j3_1 w_calls_a3_0 w_totalWaitMicros_a3_0) = (own_v3_0 w_calls_a3_0 w_totalWaitMicros_a3_0) from if_pos hj3_2)] at kt
      show Steps p.tables e below (Tn3_1.setTop (mkF m 8 #[.val (.ref a3_0), .val (.double (0 : UInt64)), .second] [(.int (XT.cmpL w_calls_a3_0 (0 : Int64)))])) _
      refine XS.ifNo Xn3_1.here hx rfl (hb hby own_d3_8) rfl (XT.ll_le_f hj3_2) ?_
      show Steps p.tables e below (Tn3_1.setTop (mkF m 11 #[.val (.ref a3_0), .val (.double (0 : UInt64)), .second] [])) _
      refine XS.aloadN Xn3_1.here hx rfl (hb hby own_d3_11) rfl rfl ?_
      show Steps p.tables e below (Tn3_1.setTop (mkF m 12 #[.val (.ref a3_0), .val (.double (0 : UInt64)), .second] [(.ref a3_0)])) _
      refine stn3_3 _ ?_
      show Steps p.tables e below (Tn3_3.setTop (mkF m 15 #[.val (.ref a3_0), .val (.double (0 : UInt64)), .second] [(.long w_totalWaitMicros_a3_0)])) _
      refine XS.l2dS Xn3_3.here hx rfl (hb hby own_d3_15) rfl rfl ?_
      show Steps p.tables e below (Tn3_3.setTop (mkF m 16 #[.val (.ref a3_0), .val (.double (0 : UInt64)), .second] [(.double (FP.l2d w_totalWaitMicros_a3_0))])) _
      refine Xn3_3.ldc2DoubleC hx hown (mvT hZ (hw _ (List.mem_of_getElem? (i := 36) rfl))) (g := (mkF m 16 #[.val (.ref a3_0), .val (.double (0 : UInt64)), .second] [(.double (FP.l2d w_totalWaitMicros_a3_0))])) rfl (hb hby own_d3_16) _ ?_
      show Steps p.tables e below (Tn3_3.setTop (mkF m 19 #[.val (.ref a3_0), .val (.double (0 : UInt64)), .second] [(.double (4652007308841189376 : UInt64)), (.double (FP.l2d w_totalWaitMicros_a3_0))])) _
      refine XS.ddivS Xn3_3.here hx rfl (hb hby own_d3_19) rfl (nn19 hj3_2) rfl ?_
      show Steps p.tables e below (Tn3_3.setTop (mkF m 20 #[.val (.ref a3_0), .val (.double (0 : UInt64)), .second] [(.double (FP.ddiv (FP.l2d w_totalWaitMicros_a3_0) (4652007308841189376 : UInt64)))])) _
      refine XS.aloadN Xn3_3.here hx rfl (hb hby own_d3_20) rfl rfl ?_
      show Steps p.tables e below (Tn3_3.setTop (mkF m 21 #[.val (.ref a3_0), .val (.double (0 : UInt64)), .second] [(.ref a3_0), (.double (FP.ddiv (FP.l2d w_totalWaitMicros_a3_0) (4652007308841189376 : UInt64)))])) _
      refine stn3_4 _ ?_
      show Steps p.tables e below (Tn3_4.setTop (mkF m 24 #[.val (.ref a3_0), .val (.double (0 : UInt64)), .second] [(.long w_calls_a3_0), (.double (FP.ddiv (FP.l2d w_totalWaitMicros_a3_0) (4652007308841189376 : UInt64)))])) _
      refine XS.l2dS Xn3_4.here hx rfl (hb hby own_d3_24) rfl rfl ?_
      show Steps p.tables e below (Tn3_4.setTop (mkF m 25 #[.val (.ref a3_0), .val (.double (0 : UInt64)), .second] [(.double (FP.l2d w_calls_a3_0)), (.double (FP.ddiv (FP.l2d w_totalWaitMicros_a3_0) (4652007308841189376 : UInt64)))])) _
      refine XS.ddivS Xn3_4.here hx rfl (hb hby own_d3_25) rfl (nn25 hj3_2) rfl ?_
      show Steps p.tables e below (Tn3_4.setTop (mkF m 26 #[.val (.ref a3_0), .val (.double (0 : UInt64)), .second] [(.double (FP.ddiv (FP.ddiv (FP.l2d w_totalWaitMicros_a3_0) (4652007308841189376 : UInt64)) (FP.l2d w_calls_a3_0)))])) _
      refine XS.dstoreN Xn3_4.here hx rfl (hb hby own_d3_26) rfl (l' := #[.val (.ref a3_0), .val (.double (own_v3_0 w_calls_a3_0 w_totalWaitMicros_a3_0)), .second]) rfl ?_
      exact kt
    · refine ⟨_, _, Xn3_1, N0, en3_1, fun target kt => ?_⟩
      rw [(show (own_j3_1 w_calls_a3_0 w_totalWaitMicros_a3_0) = (0 : UInt64) from if_neg hj3_2)] at kt
      show Steps p.tables e below (Tn3_1.setTop (mkF m 8 #[.val (.ref a3_0), .val (.double (0 : UInt64)), .second] [(.int (XT.cmpL w_calls_a3_0 (0 : Int64)))])) _
      refine XS.ifYes Xn3_1.here hx rfl (pc0 := 8) (pc' := 27) rfl (hb hby own_d3_8) rfl (XT.ll_le_t hj3_2) (by decide) (by decide) ?_
      exact kt
  obtain ⟨fs, hr, hrun, hended, hW, hsame⟩ := Xj3_2.leave (v := some (.double (own_j3_1 w_calls_a3_0 w_totalWaitMicros_a3_0))) (fun h => by rw [Bd.returns] at h; cases h)
  refine ⟨_, _, pre0 _ (?_), hrun, hended, _, _, rfl, ?_, ⟨_, rfl⟩, hW, hsame.mono (by decide) (by decide)⟩
  · show Steps p.tables e below (s₁.setTop (mkF m 0 #[.val (.ref a3_0), .unset, .unset] [])) _
    refine XS.dconst0 X0.here hx rfl (hb hby own_d3_0) (v := (0 : UInt64)) (by decide +kernel) ?_
    show Steps p.tables e below (s₁.setTop (mkF m 1 #[.val (.ref a3_0), .unset, .unset] [(.double (0 : UInt64))])) _
    refine XS.dstoreN X0.here hx rfl (hb hby own_d3_1) rfl (l' := #[.val (.ref a3_0), .val (.double (0 : UInt64)), .second]) rfl ?_
    show Steps p.tables e below (s₁.setTop (mkF m 2 #[.val (.ref a3_0), .val (.double (0 : UInt64)), .second] [])) _
    refine XS.aloadN X0.here hx rfl (hb hby own_d3_2) rfl rfl ?_
    show Steps p.tables e below (s₁.setTop (mkF m 3 #[.val (.ref a3_0), .val (.double (0 : UInt64)), .second] [(.ref a3_0)])) _
    refine stn3_1 _ ?_
    show Steps p.tables e below (Tn3_1.setTop (mkF m 6 #[.val (.ref a3_0), .val (.double (0 : UInt64)), .second] [(.long w_calls_a3_0)])) _
    refine XT.lconst Xn3_1.here hx rfl (hb hby own_d3_6) ?_
    show Steps p.tables e below (Tn3_1.setTop (mkF m 7 #[.val (.ref a3_0), .val (.double (0 : UInt64)), .second] [(.long (0 : Int64)), (.long w_calls_a3_0)])) _
    refine XT.lcmp Xn3_1.here hx rfl (hb hby own_d3_7) rfl ?_
    show Steps p.tables e below (Tn3_1.setTop (mkF m 8 #[.val (.ref a3_0), .val (.double (0 : UInt64)), .second] [(.int (XT.cmpL w_calls_a3_0 (0 : Int64)))])) _
    refine stj3_2 _ ?_
    show Steps p.tables e below (Tj3_2.setTop (mkF m 27 #[.val (.ref a3_0), .val (.double (own_j3_1 w_calls_a3_0 w_totalWaitMicros_a3_0)), .second] [])) _
    refine XS.dloadN Xj3_2.here hx rfl (hb hby own_d3_27) rfl ?_
    show Steps p.tables e below (Tj3_2.setTop (mkF m 28 #[.val (.ref a3_0), .val (.double (own_j3_1 w_calls_a3_0 w_totalWaitMicros_a3_0)), .second] [(.double (own_j3_1 w_calls_a3_0 w_totalWaitMicros_a3_0))])) _
    exact own_retD Xj3_2 hx Bd.returns (hb hby own_d3_28) hr
  · show own_Q3 Z a3_0 w_calls_a3_0 w_totalWaitMicros_a3_0 h0 n0 _ Tj3_2.heap _
    rw [ej3_2]
    exact ⟨rfl, Nj3_2, rfl⟩
theorem own_pn1 : plainName "com/example/ostia/ostia/PoolStatusAverageWaitMillisPinLaw" = true := by first | (simp [plainName, overriddenIn]; done) | decide +kernel
theorem own_pd0 : parseMethodDescriptor "(IIIJJJJJJ)V" = some ⟨[.int, .int, .int, .long, .long, .long, .long, .long, .long], none⟩ := by decide +kernel
theorem own_pd1 : parseMethodDescriptor "()D" = some ⟨[], some .double⟩ := by decide +kernel
def own_j0_0 (q0_4 : Int64) : Int64 := if (0 : Int64) < q0_4 then (-q0_4) else q0_4
def own_v0_1 (p0_1 : Int32) : Int64 := ((p0_1 &&& (1023 : Int32)) + (1 : Int32)).toInt64
def own_v0_2 (p0_0 : Int32) (p0_1 : Int32) (p0_2 : Int32) : Int64 := ((own_v0_1 p0_1) * (((1000 : Int64) * p0_0.toInt64) + ((125 : Int64) * (p0_2 &&& (7 : Int32)).toInt64)))
def own_v0_3 (p0_0 : Int32) (p0_2 : Int32) : UInt64 := (FP.ddiv (FP.l2d (((8 : Int64) * p0_0.toInt64) + (p0_2 &&& (7 : Int32)).toInt64)) (4620693217682128896 : UInt64))
def own_v0_4 (p0_1 : Int32) (q0_5 : Int64) : Int64 := ((q0_5 &&& (9223372036854775807 : Int64)) - ((q0_5 &&& (9223372036854775807 : Int64)) / ((1000 : Int64) * (own_v0_1 p0_1))) * ((1000 : Int64) * (own_v0_1 p0_1)))
def own_v0_5 (p0_0 : Int32) (p0_1 : Int32) (q0_5 : Int64) : Int64 := ((((1000 : Int64) * (own_v0_1 p0_1)) * p0_0.toInt64) + (own_v0_4 p0_1 q0_5))
def own_v0_6 (p0_0 : Int32) (p0_1 : Int32) (q0_5 : Int64) : UInt64 := (own_r3_2 (own_v0_1 p0_1) (own_v0_5 p0_0 p0_1 q0_5))
def own_v0_7 (p0_0 : Int32) : UInt64 := (FP.l2d (p0_0.toInt64 + (1 : Int64)))
theorem own_ef0 (m : MethodId) (p0_0 : Int32) (p0_1 : Int32) (p0_2 : Int32) (p0_3 : Int32) (q0_4 : Int64) (q0_5 : Int64) : entryFrame m #[(.int p0_0), (.int p0_1), (.int p0_2), (.int p0_3), (.long q0_4), (.long q0_5)] maxLocals = mkF m 0 #[.val (.int p0_0), .val (.int p0_1), .val (.int p0_2), .val (.int p0_3), .val (.long q0_4), .second, .val (.long q0_5), .second, .unset, .unset, .unset, .unset, .unset, .unset, .unset, .unset, .unset, .unset, .unset, .unset, .unset, .unset] [] := by first | (simp [entryFrame, mkF, argsToLocals, Value.category, maxLocals]; done) | rfl
def own_Q0 (Z : State) (p0_0 : Int32) (p0_1 : Int32) (p0_2 : Int32) (p0_3 : Int32) (q0_4 : Int64) (q0_5 : Int64) (h0 : Heap) (n0 : Nat) (v : Option Value) (h : Heap) (L : List Loc) : Prop := v = some (.int (1 : Int32)) ∧ Fr n0 L
set_option maxRecDepth 65536 in
set_option maxHeartbeats 40000000 in
theorem own_rm0 (l : Launch) (Z : State) (a0 : Array Value) (hw : ∀ d ∈ tables_1, d.before a0 Z = true) (ws : List Jvm.Cond) (p0_0 : Int32) (p0_1 : Int32) (p0_2 : Int32) (p0_3 : Int32) (q0_4 : Int64) (q0_5 : Int64) (h0 : Heap) (n0 : Nat) (Z0 : n0 ≤ h0.size) (c49_nn19 : (0 : Int64) < (own_j0_0 q0_4) → NoNaN64 (FP.ddiv (FP.l2d q0_5) (4652007308841189376 : UInt64))) (c49_nn25 : (0 : Int64) < (own_j0_0 q0_4) → NoNaN64 (FP.ddiv (FP.ddiv (FP.l2d q0_5) (4652007308841189376 : UInt64)) (FP.l2d (own_j0_0 q0_4)))) (hc54 : (cmpValue (FP.dcmp (own_r3_2 (own_j0_0 q0_4) q0_5) (0 : UInt64)) .l) = (0 : Int32)) (nn137 : NoNaN64 (FP.ddiv (FP.l2d (((8 : Int64) * p0_0.toInt64) + (p0_2 &&& (7 : Int32)).toInt64)) (4620693217682128896 : UInt64))) (c142_nn19 : (0 : Int64) < (own_v0_1 p0_1) → NoNaN64 (FP.ddiv (FP.l2d (own_v0_2 p0_0 p0_1 p0_2)) (4652007308841189376 : UInt64))) (c142_nn25 : (0 : Int64) < (own_v0_1 p0_1) → NoNaN64 (FP.ddiv (FP.ddiv (FP.l2d (own_v0_2 p0_0 p0_1 p0_2)) (4652007308841189376 : UInt64)) (FP.l2d (own_v0_1 p0_1)))) (hc148 : (cmpValue (FP.dcmp (own_r3_2 (own_v0_1 p0_1) (own_v0_2 p0_0 p0_1 p0_2)) (own_v0_3 p0_0 p0_2)) .l) = (0 : Int32)) (hz169 : ((1000 : Int64) * (own_v0_1 p0_1)) ≠ 0) (c208_nn19 : (0 : Int64) < (own_v0_1 p0_1) → NoNaN64 (FP.ddiv (FP.l2d (own_v0_5 p0_0 p0_1 q0_5)) (4652007308841189376 : UInt64))) (c208_nn25 : (0 : Int64) < (own_v0_1 p0_1) → NoNaN64 (FP.ddiv (FP.ddiv (FP.l2d (own_v0_5 p0_0 p0_1 q0_5)) (4652007308841189376 : UInt64)) (FP.l2d (own_v0_1 p0_1)))) (hc229 : ¬ ((0 : Int32) < (cmpValue (FP.dcmp (FP.i2d p0_0) (own_v0_6 p0_0 p0_1 q0_5)) .g))) (hc237 : ¬ ((0 : Int32) < (cmpValue (FP.dcmp (own_v0_6 p0_0 p0_1 q0_5) (own_v0_7 p0_0)) .g))) :
    MetFree l x (head1 (Jvm.Cond.code x code maxLocals ret :: ws) room_1) (fun a U => a = #[(.int p0_0), (.int p0_1), (.int p0_2), (.int p0_3), (.long q0_4), (.long q0_5)] ∧ Z.Warmed39 U.vm ∧ U.heap = h0) (fun _ _ _ _ _ => True) (fun _ U o U' => ∃ v L, o = .returned v ∧ own_Q0 Z p0_0 p0_1 p0_2 p0_3 q0_4 q0_5 h0 n0 v U'.heap L ∧ FrameEnd U o U' L room_1.cells room_1.slots) := by
  refine MetFree.of_bodySF (plainFor_of_name own_pn1) hisR ?_
  intro p e s m args below meth c s₁ Bd hml0 hP hK
  obtain ⟨rfl, hZ, hh⟩ := hP
  have hx := Bd.exec
  have hby := Bd.bytes
  have hml : c.maxLocals = 22 := hml0
  have hown : s.vm.findClass "com/example/ostia/ostia/PoolStatusAverageWaitMillisPinLaw" = some m.cls := findClass_of_methodNamed Bd.named
  have hnm := (name_of_methodNamed Bd.named Bd.method).1
  have X0 : Stand p l e room_1 s m #[(.int p0_0), (.int p0_1), (.int p0_2), (.int p0_3), (.long q0_4), (.long q0_5)] below meth c s₁ [] 0 0 := Stand.of_body Bd
  have e0 : s₁.heap = h0 := by rw [← hh, Bd.state]; rfl
  have N0 := Fr.nil n0
  have Zr : h0.size ≤ h0.size := Nat.le_refl _
  have pre0 : ∀ t, Steps p.tables e below (s₁.setTop (mkF m 0 #[.val (.int p0_0), .val (.int p0_1), .val (.int p0_2), .val (.int p0_3), .val (.long q0_4), .second, .val (.long q0_5), .second, .unset, .unset, .unset, .unset, .unset, .unset, .unset, .unset, .unset, .unset, .unset, .unset, .unset, .unset] [])) t → Steps p.tables e below (s₁.setTop (entryFrame m #[(.int p0_0), (.int p0_1), (.int p0_2), (.int p0_3), (.long q0_4), (.long q0_5)] maxLocals)) t := fun t k => castTop (own_ef0 m p0_0 p0_1 p0_2 p0_3 q0_4 q0_5) k
  have Ks0_1 : ∀ t, Steps p.tables e below (s₁.setTop (mkF m 7 #[.val (.int p0_0), .val (.int p0_1), .val (.int p0_2), .val (.int p0_3), .val (.long q0_4), .second, .val (.long q0_5), .second, .val (.int (p0_3 &&& (3 : Int32))), .unset, .unset, .unset, .unset, .unset, .unset, .unset, .unset, .unset, .unset, .unset, .unset, .unset] [(.int (p0_3 &&& (3 : Int32)))])) t → Steps p.tables e below (s₁.setTop (mkF m 0 #[.val (.int p0_0), .val (.int p0_1), .val (.int p0_2), .val (.int p0_3), .val (.long q0_4), .second, .val (.long q0_5), .second, .unset, .unset, .unset, .unset, .unset, .unset, .unset, .unset, .unset, .unset, .unset, .unset, .unset, .unset] [])) t := by
    intro t kt
    show Steps p.tables e below (s₁.setTop (mkF m 0 #[.val (.int p0_0), .val (.int p0_1), .val (.int p0_2), .val (.int p0_3), .val (.long q0_4), .second, .val (.long q0_5), .second, .unset, .unset, .unset, .unset, .unset, .unset, .unset, .unset, .unset, .unset, .unset, .unset, .unset, .unset] [])) _
    refine XS.iloadN X0.here hx rfl (hb hby at_0) rfl ?_
    show Steps p.tables e below (s₁.setTop (mkF m 1 #[.val (.int p0_0), .val (.int p0_1), .val (.int p0_2), .val (.int p0_3), .val (.long q0_4), .second, .val (.long q0_5), .second, .unset, .unset, .unset, .unset, .unset, .unset, .unset, .unset, .unset, .unset, .unset, .unset, .unset, .unset] [(.int p0_3)])) _
    refine XS.iconst X0.here hx rfl (hb hby at_1) ?_
    show Steps p.tables e below (s₁.setTop (mkF m 2 #[.val (.int p0_0), .val (.int p0_1), .val (.int p0_2), .val (.int p0_3), .val (.long q0_4), .second, .val (.long q0_5), .second, .unset, .unset, .unset, .unset, .unset, .unset, .unset, .unset, .unset, .unset, .unset, .unset, .unset, .unset] [(.int (3 : Int32)), (.int p0_3)])) _
    refine XS.iand X0.here hx rfl (hb hby at_2) rfl ?_
    show Steps p.tables e below (s₁.setTop (mkF m 3 #[.val (.int p0_0), .val (.int p0_1), .val (.int p0_2), .val (.int p0_3), .val (.long q0_4), .second, .val (.long q0_5), .second, .unset, .unset, .unset, .unset, .unset, .unset, .unset, .unset, .unset, .unset, .unset, .unset, .unset, .unset] [(.int (p0_3 &&& (3 : Int32)))])) _
    refine XS.istore X0.here hx rfl (hb hby at_3) rfl (l' := #[.val (.int p0_0), .val (.int p0_1), .val (.int p0_2), .val (.int p0_3), .val (.long q0_4), .second, .val (.long q0_5), .second, .val (.int (p0_3 &&& (3 : Int32))), .unset, .unset, .unset, .unset, .unset, .unset, .unset, .unset, .unset, .unset, .unset, .unset, .unset]) rfl ?_
    show Steps p.tables e below (s₁.setTop (mkF m 5 #[.val (.int p0_0), .val (.int p0_1), .val (.int p0_2), .val (.int p0_3), .val (.long q0_4), .second, .val (.long q0_5), .second, .val (.int (p0_3 &&& (3 : Int32))), .unset, .unset, .unset, .unset, .unset, .unset, .unset, .unset, .unset, .unset, .unset, .unset, .unset] [])) _
    refine XS.iload X0.here hx rfl (hb hby at_5) rfl ?_
    exact kt
  by_cases hs0_1 : (p0_3 &&& (3 : Int32)) = (0 : Int32)
  · have K0_2 : ∀ t, Steps p.tables e below (s₁.setTop (mkF m 10 #[.val (.int p0_0), .val (.int p0_1), .val (.int p0_2), .val (.int p0_3), .val (.long q0_4), .second, .val (.long q0_5), .second, .val (.int (p0_3 &&& (3 : Int32))), .unset, .unset, .unset, .unset, .unset, .unset, .unset, .unset, .unset, .unset, .unset, .unset, .unset] [])) t → Steps p.tables e below (s₁.setTop (mkF m 7 #[.val (.int p0_0), .val (.int p0_1), .val (.int p0_2), .val (.int p0_3), .val (.long q0_4), .second, .val (.long q0_5), .second, .val (.int (p0_3 &&& (3 : Int32))), .unset, .unset, .unset, .unset, .unset, .unset, .unset, .unset, .unset, .unset, .unset, .unset, .unset] [(.int (p0_3 &&& (3 : Int32)))])) t := by
      intro t kt
      show Steps p.tables e below (s₁.setTop (mkF m 7 #[.val (.int p0_0), .val (.int p0_1), .val (.int p0_2), .val (.int p0_3), .val (.long q0_4), .second, .val (.long q0_5), .second, .val (.int (p0_3 &&& (3 : Int32))), .unset, .unset, .unset, .unset, .unset, .unset, .unset, .unset, .unset, .unset, .unset, .unset, .unset] [(.int (p0_3 &&& (3 : Int32)))])) _
      refine XS.ifNo X0.here hx rfl (hb hby at_7) rfl (XT.i0_ne_f hs0_1) ?_
      exact kt
    obtain ⟨Tj0_3, lj0_3, Xj0_3, Nj0_3, ej0_3, stj0_3⟩ : ∃ (T' : State) (l' : List Loc), Stand p l e room_1 s m #[(.int p0_0), (.int p0_1), (.int p0_2), (.int p0_3), (.long q0_4), (.long q0_5)] below meth c T' l' 0 0 ∧ Fr n0 l' ∧ T'.heap = h0 ∧ ∀ target, Steps p.tables e below (T'.setTop (mkF m 25 #[.val (.int p0_0), .val (.int p0_1), .val (.int p0_2), .val (.int p0_3), .val (.long q0_4), .second, .val (.long q0_5), .second, .val (.int (p0_3 &&& (3 : Int32))), .unset, .unset, .unset, .unset, .unset, .unset, .unset, .unset, .unset, .unset, .unset, .unset, .unset] [(.long (own_j0_0 q0_4))])) target → Steps p.tables e below (s₁.setTop (mkF m 14 #[.val (.int p0_0), .val (.int p0_1), .val (.int p0_2), .val (.int p0_3), .val (.long q0_4), .second, .val (.long q0_5), .second, .val (.int (p0_3 &&& (3 : Int32))), .unset, .unset, .unset, .unset, .unset, .unset, .unset, .unset, .unset, .unset, .unset, .unset, .unset] [(.int (XT.cmpL q0_4 (0 : Int64)))])) target := by
      by_cases hj0_3 : (0 : Int64) < q0_4
      · refine ⟨_, _, X0, N0, e0, fun target kt => ?_⟩
        rw [(show (own_j0_0 q0_4) = (-q0_4) from if_pos hj0_3)] at kt
        show Steps p.tables e below (s₁.setTop (mkF m 14 #[.val (.int p0_0), .val (.int p0_1), .val (.int p0_2), .val (.int p0_3), .val (.long q0_4), .second, .val (.long q0_5), .second, .val (.int (p0_3 &&& (3 : Int32))), .unset, .unset, .unset, .unset, .unset, .unset, .unset, .unset, .unset, .unset, .unset, .unset, .unset] [(.int (XT.cmpL q0_4 (0 : Int64)))])) _
        refine XS.ifNo X0.here hx rfl (hb hby at_14) rfl (XT.ll_le_f hj0_3) ?_
        show Steps p.tables e below (s₁.setTop (mkF m 17 #[.val (.int p0_0), .val (.int p0_1), .val (.int p0_2), .val (.int p0_3), .val (.long q0_4), .second, .val (.long q0_5), .second, .val (.int (p0_3 &&& (3 : Int32))), .unset, .unset, .unset, .unset, .unset, .unset, .unset, .unset, .unset, .unset, .unset, .unset, .unset] [])) _
        refine XT.lload X0.here hx rfl (hb hby at_17) rfl ?_
        show Steps p.tables e below (s₁.setTop (mkF m 19 #[.val (.int p0_0), .val (.int p0_1), .val (.int p0_2), .val (.int p0_3), .val (.long q0_4), .second, .val (.long q0_5), .second, .val (.int (p0_3 &&& (3 : Int32))), .unset, .unset, .unset, .unset, .unset, .unset, .unset, .unset, .unset, .unset, .unset, .unset, .unset] [(.long q0_4)])) _
        refine XT.lneg X0.here hx rfl (hb hby at_19) rfl ?_
        show Steps p.tables e below (s₁.setTop (mkF m 20 #[.val (.int p0_0), .val (.int p0_1), .val (.int p0_2), .val (.int p0_3), .val (.long q0_4), .second, .val (.long q0_5), .second, .val (.int (p0_3 &&& (3 : Int32))), .unset, .unset, .unset, .unset, .unset, .unset, .unset, .unset, .unset, .unset, .unset, .unset, .unset] [(.long (-q0_4))])) _
        refine XS.goto X0.here hx rfl (pc0 := 20) (pc' := 25) rfl (hb hby at_20) (by decide) (by decide) ?_
        exact kt
      · refine ⟨_, _, X0, N0, e0, fun target kt => ?_⟩
        rw [(show (own_j0_0 q0_4) = q0_4 from if_neg hj0_3)] at kt
        show Steps p.tables e below (s₁.setTop (mkF m 14 #[.val (.int p0_0), .val (.int p0_1), .val (.int p0_2), .val (.int p0_3), .val (.long q0_4), .second, .val (.long q0_5), .second, .val (.int (p0_3 &&& (3 : Int32))), .unset, .unset, .unset, .unset, .unset, .unset, .unset, .unset, .unset, .unset, .unset, .unset, .unset] [(.int (XT.cmpL q0_4 (0 : Int64)))])) _
        refine XS.ifYes X0.here hx rfl (pc0 := 14) (pc' := 23) rfl (hb hby at_14) rfl (XT.ll_le_t hj0_3) (by decide) (by decide) ?_
        show Steps p.tables e below (s₁.setTop (mkF m 23 #[.val (.int p0_0), .val (.int p0_1), .val (.int p0_2), .val (.int p0_3), .val (.long q0_4), .second, .val (.long q0_5), .second, .val (.int (p0_3 &&& (3 : Int32))), .unset, .unset, .unset, .unset, .unset, .unset, .unset, .unset, .unset, .unset, .unset, .unset, .unset] [])) _
        refine XT.lload X0.here hx rfl (hb hby at_23) rfl ?_
        exact kt
    obtain ⟨Tn0_4, hn0_4, Xn0_4, en0_4, En0_4, An0_4, Dn0_4, -, stn0_4⟩ := newO Xj0_3 hx hZ hown (hw _ (List.mem_of_getElem? (i := 2) rfl)) (hw _ (List.mem_of_getElem? (i := 3) rfl)) (hw _ (List.mem_of_getElem? (i := 4) rfl)) ej0_3 (g := (mkF m 27 #[.val (.int p0_0), .val (.int p0_1), .val (.int p0_2), .val (.int p0_3), .val (.long q0_4), .second, .val (.long q0_5), .second, .val (.int (p0_3 &&& (3 : Int32))), .val (.long (own_j0_0 q0_4)), .second, .unset, .unset, .unset, .unset, .unset, .unset, .unset, .unset, .unset, .unset, .unset] [])) rfl (hb hby at_27) (by decide) (by decide)
    obtain ⟨bn0_4, gn0_4⟩ : ∃ z, z = h0.size := ⟨_, rfl⟩
    rw [← gn0_4] at An0_4 Dn0_4 stn0_4
    have g_bn0_4 : n0 ≤ bn0_4 := Nat.le_trans Z0 (Nat.le_of_eq gn0_4.symm)
    have sz_bn0_4 : h0.size ≤ bn0_4 := Nat.le_trans Zr (Nat.le_of_eq gn0_4.symm)
    have sz0_5 : h0.size ≤ hn0_4.size := Nat.le_trans Zr En0_4.1
    have F_inUse_bn0_4 : Fld Z hn0_4 bn0_4 "com/example/ostia/ostia/PoolStatus" "inUse" "I" (.int (0 : Int32)) := Dn0_4 (Or.inr (hw _ (List.mem_of_getElem? (i := 12) rfl))) (ty := .int) (by decide)
    have F_idle_bn0_4 : Fld Z hn0_4 bn0_4 "com/example/ostia/ostia/PoolStatus" "idle" "I" (.int (0 : Int32)) := Dn0_4 (Or.inr (hw _ (List.mem_of_getElem? (i := 14) rfl))) (ty := .int) (by decide)
    have F_waiting_bn0_4 : Fld Z hn0_4 bn0_4 "com/example/ostia/ostia/PoolStatus" "waiting" "I" (.int (0 : Int32)) := Dn0_4 (Or.inr (hw _ (List.mem_of_getElem? (i := 16) rfl))) (ty := .int) (by decide)
    have F_opened_bn0_4 : Fld Z hn0_4 bn0_4 "com/example/ostia/ostia/PoolStatus" "opened" "J" (.long (0 : Int64)) := Dn0_4 (Or.inr (hw _ (List.mem_of_getElem? (i := 18) rfl))) (ty := .long) (by decide)
    have F_closed_bn0_4 : Fld Z hn0_4 bn0_4 "com/example/ostia/ostia/PoolStatus" "closed" "J" (.long (0 : Int64)) := Dn0_4 (Or.inr (hw _ (List.mem_of_getElem? (i := 20) rfl))) (ty := .long) (by decide)
    have F_calls_bn0_4 : Fld Z hn0_4 bn0_4 "com/example/ostia/ostia/PoolStatus" "calls" "J" (.long (0 : Int64)) := Dn0_4 (Or.inr (hw _ (List.mem_of_getElem? (i := 22) rfl))) (ty := .long) (by decide)
    have F_timeouts_bn0_4 : Fld Z hn0_4 bn0_4 "com/example/ostia/ostia/PoolStatus" "timeouts" "J" (.long (0 : Int64)) := Dn0_4 (Or.inr (hw _ (List.mem_of_getElem? (i := 24) rfl))) (ty := .long) (by decide)
    have F_totalWaitMicros_bn0_4 : Fld Z hn0_4 bn0_4 "com/example/ostia/ostia/PoolStatus" "totalWaitMicros" "J" (.long (0 : Int64)) := Dn0_4 (Or.inr (hw _ (List.mem_of_getElem? (i := 26) rfl))) (ty := .long) (by decide)
    have F_longestWaitNanos_bn0_4 : Fld Z hn0_4 bn0_4 "com/example/ostia/ostia/PoolStatus" "longestWaitNanos" "J" (.long (0 : Int64)) := Dn0_4 (Or.inr (hw _ (List.mem_of_getElem? (i := 28) rfl))) (ty := .long) (by decide)
    obtain ⟨_, _, ⟨Tk0_6, Lk0_6, kk0_6, nk0_6⟩, -, Xk0_6, ⟨Lck0_6, hQk0_6, lk0_6, yk0_6, zk0_6⟩, stk0_6⟩ := Xn0_4.specialBack hx (y := (⟨"com/example/ostia/ostia/PoolStatus", "<init>", "(IIIJJJJJJ)V"⟩ : MethodName)) rfl hown (mvT hZ (hw _ (List.mem_of_getElem? (i := 5) rfl))) (mvT hZ (hw _ (List.mem_of_getElem? (i := 6) rfl))) (mvT hZ (hw _ (List.mem_of_getElem? (i := 7) rfl))) (by decide) (backOf (W := 1) (own_rm1 l Z a0 hw [] bn0_4 (0 : Int32) (0 : Int32) (0 : Int32) (0 : Int64) (0 : Int64) (own_j0_0 q0_4) (0 : Int64) q0_5 (0 : Int64) (.int (0 : Int32)) (.int (0 : Int32)) (.int (0 : Int32)) (.long (0 : Int64)) (.long (0 : Int64)) (.long (0 : Int64)) (.long (0 : Int64)) (.long (0 : Int64)) (.long (0 : Int64)) hn0_4 n0 (Nat.le_trans Z0 sz0_5) An0_4 F_inUse_bn0_4 g_bn0_4 F_idle_bn0_4 F_waiting_bn0_4 F_opened_bn0_4 F_closed_bn0_4 F_calls_bn0_4 F_timeouts_bn0_4 F_totalWaitMicros_bn0_4 F_longestWaitNanos_bn0_4) hZ (hw _ (List.mem_of_getElem? (i := 7) rfl)) (hw _ (List.mem_of_getElem? (i := 4) rfl)) (by decide) (by decide)) (g := (mkF m 42 #[.val (.int p0_0), .val (.int p0_1), .val (.int p0_2), .val (.int p0_3), .val (.long q0_4), .second, .val (.long q0_5), .second, .val (.int (p0_3 &&& (3 : Int32))), .val (.long (own_j0_0 q0_4)), .second, .unset, .unset, .unset, .unset, .unset, .unset, .unset, .unset, .unset, .unset, .unset] [(.long (0 : Int64)), (.long q0_5), (.long (0 : Int64)), (.long (own_j0_0 q0_4)), (.long (0 : Int64)), (.long (0 : Int64)), (.int (0 : Int32)), (.int (0 : Int32)), (.int (0 : Int32)), (.ref bn0_4), (.ref bn0_4)])) rfl (by rw [hml]; rfl) (Steps.refl _) (a := bn0_4) (argsL := [(.int (0 : Int32)), (.int (0 : Int32)), (.int (0 : Int32)), (.long (0 : Int64)), (.long (0 : Int64)), (.long (own_j0_0 q0_4)), (.long (0 : Int64)), (.long q0_5), (.long (0 : Int64))]) (rest := [(.ref bn0_4)]) (lenOf own_pd0 rfl) rfl (by show 2 * 0 + _ ≤ _; exact Nat.le_of_eq rfl) (hb hby at_42) (fun _ _ => ⟨rfl, en0_4, (by decide : 1 + 0 ≤ _), (by decide : 9 + 0 ≤ _)⟩)
    dsimp only [Pt.U, Pt.locs, Pt.cells, Pt.slots] at Xk0_6 lk0_6 yk0_6 zk0_6 stk0_6 hQk0_6
    subst lk0_6 yk0_6 zk0_6
    obtain ⟨rfl, Nk0_6q, Kk0_6, Qk0_6_0, Qk0_6_1, Qk0_6_2, Qk0_6_3, Qk0_6_4, Qk0_6_5, Qk0_6_6, Qk0_6_7, Qk0_6_8, Qk0_6_9⟩ := hQk0_6
    have sz0_7 : h0.size ≤ Tk0_6.heap.size := Nat.le_trans sz0_5 Kk0_6.1
    have Nk0_6 := Fr.app Nj0_3 Nk0_6q
    obtain ⟨cqk0_8, kqk0_8, qk0_8a, qk0_8b, qk0_8c⟩ := isOf hZ rfl Qk0_6_0
    obtain ⟨_, _, ⟨Tk0_8, Lk0_8, kk0_8, nk0_8⟩, -, Xk0_8, ⟨Lck0_8, hQk0_8, lk0_8, yk0_8, zk0_8⟩, stk0_8⟩ := Xk0_6.virtualBack hx (y := (⟨"com/example/ostia/ostia/PoolStatus", "averageWaitMillis", "()D"⟩ : MethodName)) (z := (⟨"com/example/ostia/ostia/PoolStatus", "averageWaitMillis", "()D"⟩ : MethodName)) hown (mvT hZ (hw _ (List.mem_of_getElem? (i := 31) rfl))) (mvT hZ (hw _ (List.mem_of_getElem? (i := 32) rfl))) (notFace_of_selects (args := #[]) (mvT hZ (hw _ (List.mem_of_getElem? (i := 34) rfl)))) (mvT hZ (hw _ (List.mem_of_getElem? (i := 34) rfl))) (mvT hZ (hw _ (List.mem_of_getElem? (i := 33) rfl))) (by decide) (backOf (W := 0) (own_rm3 l Z a0 hw [] bn0_4 (own_j0_0 q0_4) q0_5 Tk0_6.heap n0 (Nat.le_trans Z0 sz0_7) Qk0_6_6 Qk0_6_8 c49_nn19 c49_nn25) hZ (hw _ (List.mem_of_getElem? (i := 35) rfl)) (hw _ (List.mem_of_getElem? (i := 4) rfl)) (by decide) (by decide)) qk0_8a qk0_8c (g := (mkF m 49 #[.val (.int p0_0), .val (.int p0_1), .val (.int p0_2), .val (.int p0_3), .val (.long q0_4), .second, .val (.long q0_5), .second, .val (.int (p0_3 &&& (3 : Int32))), .val (.long (own_j0_0 q0_4)), .second, .val (.ref bn0_4), .unset, .unset, .unset, .unset, .unset, .unset, .unset, .unset, .unset, .unset] [(.ref bn0_4)])) rfl (by rw [hml]; rfl) (Steps.refl _) (argsL := []) (rest := []) (lenOf own_pd1 rfl) rfl (by show 2 * 0 + _ ≤ _; exact Nat.le_of_eq rfl) (hb hby at_49) (fun _ _ => ⟨rfl, rfl, (by decide : 1 + 0 ≤ _), (by decide : 9 + 0 ≤ _)⟩)
    dsimp only [Pt.U, Pt.locs, Pt.cells, Pt.slots] at Xk0_8 lk0_8 yk0_8 zk0_8 stk0_8 hQk0_8
    subst lk0_8 yk0_8 zk0_8
    obtain ⟨rfl, Nk0_8q, ek0_8⟩ := hQk0_8
    have Nk0_8 := Fr.app Nk0_6 Nk0_8q
    obtain ⟨fs, hr, hrun, hended, hW, hsame⟩ := Xk0_8.leave (v := some (.int (1 : Int32))) (fun h => by rw [Bd.returns] at h; cases h)
    refine ⟨_, _, pre0 _ (Ks0_1 _ (K0_2 _ (?_))), hrun, hended, _, _, rfl, ?_, ⟨_, rfl⟩, hW, hsame.mono (by decide) (by decide)⟩
    · show Steps p.tables e below (s₁.setTop (mkF m 10 #[.val (.int p0_0), .val (.int p0_1), .val (.int p0_2), .val (.int p0_3), .val (.long q0_4), .second, .val (.long q0_5), .second, .val (.int (p0_3 &&& (3 : Int32))), .unset, .unset, .unset, .unset, .unset, .unset, .unset, .unset, .unset, .unset, .unset, .unset, .unset] [])) _
      refine XT.lload X0.here hx rfl (hb hby at_10) rfl ?_
      show Steps p.tables e below (s₁.setTop (mkF m 12 #[.val (.int p0_0), .val (.int p0_1), .val (.int p0_2), .val (.int p0_3), .val (.long q0_4), .second, .val (.long q0_5), .second, .val (.int (p0_3 &&& (3 : Int32))), .unset, .unset, .unset, .unset, .unset, .unset, .unset, .unset, .unset, .unset, .unset, .unset, .unset] [(.long q0_4)])) _
      refine XT.lconst X0.here hx rfl (hb hby at_12) ?_
      show Steps p.tables e below (s₁.setTop (mkF m 13 #[.val (.int p0_0), .val (.int p0_1), .val (.int p0_2), .val (.int p0_3), .val (.long q0_4), .second, .val (.long q0_5), .second, .val (.int (p0_3 &&& (3 : Int32))), .unset, .unset, .unset, .unset, .unset, .unset, .unset, .unset, .unset, .unset, .unset, .unset, .unset] [(.long (0 : Int64)), (.long q0_4)])) _
      refine XT.lcmp X0.here hx rfl (hb hby at_13) rfl ?_
      show Steps p.tables e below (s₁.setTop (mkF m 14 #[.val (.int p0_0), .val (.int p0_1), .val (.int p0_2), .val (.int p0_3), .val (.long q0_4), .second, .val (.long q0_5), .second, .val (.int (p0_3 &&& (3 : Int32))), .unset, .unset, .unset, .unset, .unset, .unset, .unset, .unset, .unset, .unset, .unset, .unset, .unset] [(.int (XT.cmpL q0_4 (0 : Int64)))])) _
      refine stj0_3 _ ?_
      show Steps p.tables e below (Tj0_3.setTop (mkF m 25 #[.val (.int p0_0), .val (.int p0_1), .val (.int p0_2), .val (.int p0_3), .val (.long q0_4), .second, .val (.long q0_5), .second, .val (.int (p0_3 &&& (3 : Int32))), .unset, .unset, .unset, .unset, .unset, .unset, .unset, .unset, .unset, .unset, .unset, .unset, .unset] [(.long (own_j0_0 q0_4))])) _
      refine XT.lstore Xj0_3.here hx rfl (hb hby at_25) rfl (l' := #[.val (.int p0_0), .val (.int p0_1), .val (.int p0_2), .val (.int p0_3), .val (.long q0_4), .second, .val (.long q0_5), .second, .val (.int (p0_3 &&& (3 : Int32))), .val (.long (own_j0_0 q0_4)), .second, .unset, .unset, .unset, .unset, .unset, .unset, .unset, .unset, .unset, .unset, .unset]) rfl ?_
      show Steps p.tables e below (Tj0_3.setTop (mkF m 27 #[.val (.int p0_0), .val (.int p0_1), .val (.int p0_2), .val (.int p0_3), .val (.long q0_4), .second, .val (.long q0_5), .second, .val (.int (p0_3 &&& (3 : Int32))), .val (.long (own_j0_0 q0_4)), .second, .unset, .unset, .unset, .unset, .unset, .unset, .unset, .unset, .unset, .unset, .unset] [])) _
      refine stn0_4 _ ?_
      show Steps p.tables e below (Tn0_4.setTop (mkF m 30 #[.val (.int p0_0), .val (.int p0_1), .val (.int p0_2), .val (.int p0_3), .val (.long q0_4), .second, .val (.long q0_5), .second, .val (.int (p0_3 &&& (3 : Int32))), .val (.long (own_j0_0 q0_4)), .second, .unset, .unset, .unset, .unset, .unset, .unset, .unset, .unset, .unset, .unset, .unset] [(.ref bn0_4)])) _
      refine XS.dup Xn0_4.here hx rfl (hb hby at_30) rfl rfl ?_
      show Steps p.tables e below (Tn0_4.setTop (mkF m 31 #[.val (.int p0_0), .val (.int p0_1), .val (.int p0_2), .val (.int p0_3), .val (.long q0_4), .second, .val (.long q0_5), .second, .val (.int (p0_3 &&& (3 : Int32))), .val (.long (own_j0_0 q0_4)), .second, .unset, .unset, .unset, .unset, .unset, .unset, .unset, .unset, .unset, .unset, .unset] [(.ref bn0_4), (.ref bn0_4)])) _
      refine XS.iconst Xn0_4.here hx rfl (hb hby at_31) ?_
      show Steps p.tables e below (Tn0_4.setTop (mkF m 32 #[.val (.int p0_0), .val (.int p0_1), .val (.int p0_2), .val (.int p0_3), .val (.long q0_4), .second, .val (.long q0_5), .second, .val (.int (p0_3 &&& (3 : Int32))), .val (.long (own_j0_0 q0_4)), .second, .unset, .unset, .unset, .unset, .unset, .unset, .unset, .unset, .unset, .unset, .unset] [(.int (0 : Int32)), (.ref bn0_4), (.ref bn0_4)])) _
      refine XS.iconst Xn0_4.here hx rfl (hb hby at_32) ?_
      show Steps p.tables e below (Tn0_4.setTop (mkF m 33 #[.val (.int p0_0), .val (.int p0_1), .val (.int p0_2), .val (.int p0_3), .val (.long q0_4), .second, .val (.long q0_5), .second, .val (.int (p0_3 &&& (3 : Int32))), .val (.long (own_j0_0 q0_4)), .second, .unset, .unset, .unset, .unset, .unset, .unset, .unset, .unset, .unset, .unset, .unset] [(.int (0 : Int32)), (.int (0 : Int32)), (.ref bn0_4), (.ref bn0_4)])) _
      refine XS.iconst Xn0_4.here hx rfl (hb hby at_33) ?_
      show Steps p.tables e below (Tn0_4.setTop (mkF m 34 #[.val (.int p0_0), .val (.int p0_1), .val (.int p0_2), .val (.int p0_3), .val (.long q0_4), .second, .val (.long q0_5), .second, .val (.int (p0_3 &&& (3 : Int32))), .val (.long (own_j0_0 q0_4)), .second, .unset, .unset, .unset, .unset, .unset, .unset, .unset, .unset, .unset, .unset, .unset] [(.int (0 : Int32)), (.int (0 : Int32)), (.int (0 : Int32)), (.ref bn0_4), (.ref bn0_4)])) _
      refine XT.lconst Xn0_4.here hx rfl (hb hby at_34) ?_
      show Steps p.tables e below (Tn0_4.setTop (mkF m 35 #[.val (.int p0_0), .val (.int p0_1), .val (.int p0_2), .val (.int p0_3), .val (.long q0_4), .second, .val (.long q0_5), .second, .val (.int (p0_3 &&& (3 : Int32))), .val (.long (own_j0_0 q0_4)), .second, .unset, .unset, .unset, .unset, .unset, .unset, .unset, .unset, .unset, .unset, .unset] [(.long (0 : Int64)), (.int (0 : Int32)), (.int (0 : Int32)), (.int (0 : Int32)), (.ref bn0_4), (.ref bn0_4)])) _
      refine XT.lconst Xn0_4.here hx rfl (hb hby at_35) ?_
      show Steps p.tables e below (Tn0_4.setTop (mkF m 36 #[.val (.int p0_0), .val (.int p0_1), .val (.int p0_2), .val (.int p0_3), .val (.long q0_4), .second, .val (.long q0_5), .second, .val (.int (p0_3 &&& (3 : Int32))), .val (.long (own_j0_0 q0_4)), .second, .unset, .unset, .unset, .unset, .unset, .unset, .unset, .unset, .unset, .unset, .unset] [(.long (0 : Int64)), (.long (0 : Int64)), (.int (0 : Int32)), (.int (0 : Int32)), (.int (0 : Int32)), (.ref bn0_4), (.ref bn0_4)])) _
      refine XT.lload Xn0_4.here hx rfl (hb hby at_36) rfl ?_
      show Steps p.tables e below (Tn0_4.setTop (mkF m 38 #[.val (.int p0_0), .val (.int p0_1), .val (.int p0_2), .val (.int p0_3), .val (.long q0_4), .second, .val (.long q0_5), .second, .val (.int (p0_3 &&& (3 : Int32))), .val (.long (own_j0_0 q0_4)), .second, .unset, .unset, .unset, .unset, .unset, .unset, .unset, .unset, .unset, .unset, .unset] [(.long (own_j0_0 q0_4)), (.long (0 : Int64)), (.long (0 : Int64)), (.int (0 : Int32)), (.int (0 : Int32)), (.int (0 : Int32)), (.ref bn0_4), (.ref bn0_4)])) _
      refine XT.lconst Xn0_4.here hx rfl (hb hby at_38) ?_
      show Steps p.tables e below (Tn0_4.setTop (mkF m 39 #[.val (.int p0_0), .val (.int p0_1), .val (.int p0_2), .val (.int p0_3), .val (.long q0_4), .second, .val (.long q0_5), .second, .val (.int (p0_3 &&& (3 : Int32))), .val (.long (own_j0_0 q0_4)), .second, .unset, .unset, .unset, .unset, .unset, .unset, .unset, .unset, .unset, .unset, .unset] [(.long (0 : Int64)), (.long (own_j0_0 q0_4)), (.long (0 : Int64)), (.long (0 : Int64)), (.int (0 : Int32)), (.int (0 : Int32)), (.int (0 : Int32)), (.ref bn0_4), (.ref bn0_4)])) _
      refine XT.lload Xn0_4.here hx rfl (hb hby at_39) rfl ?_
      show Steps p.tables e below (Tn0_4.setTop (mkF m 41 #[.val (.int p0_0), .val (.int p0_1), .val (.int p0_2), .val (.int p0_3), .val (.long q0_4), .second, .val (.long q0_5), .second, .val (.int (p0_3 &&& (3 : Int32))), .val (.long (own_j0_0 q0_4)), .second, .unset, .unset, .unset, .unset, .unset, .unset, .unset, .unset, .unset, .unset, .unset] [(.long q0_5), (.long (0 : Int64)), (.long (own_j0_0 q0_4)), (.long (0 : Int64)), (.long (0 : Int64)), (.int (0 : Int32)), (.int (0 : Int32)), (.int (0 : Int32)), (.ref bn0_4), (.ref bn0_4)])) _
      refine XT.lconst Xn0_4.here hx rfl (hb hby at_41) ?_
      show Steps p.tables e below (Tn0_4.setTop (mkF m 42 #[.val (.int p0_0), .val (.int p0_1), .val (.int p0_2), .val (.int p0_3), .val (.long q0_4), .second, .val (.long q0_5), .second, .val (.int (p0_3 &&& (3 : Int32))), .val (.long (own_j0_0 q0_4)), .second, .unset, .unset, .unset, .unset, .unset, .unset, .unset, .unset, .unset, .unset, .unset] [(.long (0 : Int64)), (.long q0_5), (.long (0 : Int64)), (.long (own_j0_0 q0_4)), (.long (0 : Int64)), (.long (0 : Int64)), (.int (0 : Int32)), (.int (0 : Int32)), (.int (0 : Int32)), (.ref bn0_4), (.ref bn0_4)])) _
      refine stk0_6.trans ?_
      show Steps p.tables e below (Tk0_6.setTop (mkF m 45 #[.val (.int p0_0), .val (.int p0_1), .val (.int p0_2), .val (.int p0_3), .val (.long q0_4), .second, .val (.long q0_5), .second, .val (.int (p0_3 &&& (3 : Int32))), .val (.long (own_j0_0 q0_4)), .second, .unset, .unset, .unset, .unset, .unset, .unset, .unset, .unset, .unset, .unset, .unset] [(.ref bn0_4)])) _
      refine XS.astore Xk0_6.here hx rfl (hb hby at_45) rfl rfl (l' := #[.val (.int p0_0), .val (.int p0_1), .val (.int p0_2), .val (.int p0_3), .val (.long q0_4), .second, .val (.long q0_5), .second, .val (.int (p0_3 &&& (3 : Int32))), .val (.long (own_j0_0 q0_4)), .second, .val (.ref bn0_4), .unset, .unset, .unset, .unset, .unset, .unset, .unset, .unset, .unset, .unset]) rfl ?_
      show Steps p.tables e below (Tk0_6.setTop (mkF m 47 #[.val (.int p0_0), .val (.int p0_1), .val (.int p0_2), .val (.int p0_3), .val (.long q0_4), .second, .val (.long q0_5), .second, .val (.int (p0_3 &&& (3 : Int32))), .val (.long (own_j0_0 q0_4)), .second, .val (.ref bn0_4), .unset, .unset, .unset, .unset, .unset, .unset, .unset, .unset, .unset, .unset] [])) _
      refine XS.aload Xk0_6.here hx rfl (hb hby at_47) rfl rfl ?_
      show Steps p.tables e below (Tk0_6.setTop (mkF m 49 #[.val (.int p0_0), .val (.int p0_1), .val (.int p0_2), .val (.int p0_3), .val (.long q0_4), .second, .val (.long q0_5), .second, .val (.int (p0_3 &&& (3 : Int32))), .val (.long (own_j0_0 q0_4)), .second, .val (.ref bn0_4), .unset, .unset, .unset, .unset, .unset, .unset, .unset, .unset, .unset, .unset] [(.ref bn0_4)])) _
      refine stk0_8.trans ?_
      show Steps p.tables e below (Tk0_8.setTop (mkF m 52 #[.val (.int p0_0), .val (.int p0_1), .val (.int p0_2), .val (.int p0_3), .val (.long q0_4), .second, .val (.long q0_5), .second, .val (.int (p0_3 &&& (3 : Int32))), .val (.long (own_j0_0 q0_4)), .second, .val (.ref bn0_4), .unset, .unset, .unset, .unset, .unset, .unset, .unset, .unset, .unset, .unset] [(.double (own_r3_2 (own_j0_0 q0_4) q0_5))])) _
      refine XS.dconst0 Xk0_8.here hx rfl (hb hby at_52) (v := (0 : UInt64)) (by decide +kernel) ?_
      show Steps p.tables e below (Tk0_8.setTop (mkF m 53 #[.val (.int p0_0), .val (.int p0_1), .val (.int p0_2), .val (.int p0_3), .val (.long q0_4), .second, .val (.long q0_5), .second, .val (.int (p0_3 &&& (3 : Int32))), .val (.long (own_j0_0 q0_4)), .second, .val (.ref bn0_4), .unset, .unset, .unset, .unset, .unset, .unset, .unset, .unset, .unset, .unset] [(.double (0 : UInt64)), (.double (own_r3_2 (own_j0_0 q0_4) q0_5))])) _
      refine XS.dcmpS Xk0_8.here hx rfl (hb hby at_53) rfl rfl ?_
      show Steps p.tables e below (Tk0_8.setTop (mkF m 54 #[.val (.int p0_0), .val (.int p0_1), .val (.int p0_2), .val (.int p0_3), .val (.long q0_4), .second, .val (.long q0_5), .second, .val (.int (p0_3 &&& (3 : Int32))), .val (.long (own_j0_0 q0_4)), .second, .val (.ref bn0_4), .unset, .unset, .unset, .unset, .unset, .unset, .unset, .unset, .unset, .unset] [(.int (cmpValue (FP.dcmp (own_r3_2 (own_j0_0 q0_4) q0_5) (0 : UInt64)) .l))])) _
      refine XS.ifNo Xk0_8.here hx rfl (hb hby at_54) rfl (XT.i0_ne_f hc54) ?_
      show Steps p.tables e below (Tk0_8.setTop (mkF m 57 #[.val (.int p0_0), .val (.int p0_1), .val (.int p0_2), .val (.int p0_3), .val (.long q0_4), .second, .val (.long q0_5), .second, .val (.int (p0_3 &&& (3 : Int32))), .val (.long (own_j0_0 q0_4)), .second, .val (.ref bn0_4), .unset, .unset, .unset, .unset, .unset, .unset, .unset, .unset, .unset, .unset] [])) _
      refine XS.iconst Xk0_8.here hx rfl (hb hby at_57) ?_
      show Steps p.tables e below (Tk0_8.setTop (mkF m 58 #[.val (.int p0_0), .val (.int p0_1), .val (.int p0_2), .val (.int p0_3), .val (.long q0_4), .second, .val (.long q0_5), .second, .val (.int (p0_3 &&& (3 : Int32))), .val (.long (own_j0_0 q0_4)), .second, .val (.ref bn0_4), .unset, .unset, .unset, .unset, .unset, .unset, .unset, .unset, .unset, .unset] [(.int (1 : Int32))])) _
      refine XS.goto Xk0_8.here hx rfl (pc0 := 58) (pc' := 62) rfl (hb hby at_58) (by decide) (by decide) ?_
      show Steps p.tables e below (Tk0_8.setTop (mkF m 62 #[.val (.int p0_0), .val (.int p0_1), .val (.int p0_2), .val (.int p0_3), .val (.long q0_4), .second, .val (.long q0_5), .second, .val (.int (p0_3 &&& (3 : Int32))), .val (.long (own_j0_0 q0_4)), .second, .val (.ref bn0_4), .unset, .unset, .unset, .unset, .unset, .unset, .unset, .unset, .unset, .unset] [(.int (1 : Int32))])) _
      exact retN Xk0_8 hx (t := .boolean) Bd.returns (by simp) (hb hby at_62) hr
    · show own_Q0 Z p0_0 p0_1 p0_2 p0_3 q0_4 q0_5 h0 n0 _ Tk0_8.heap _
      rw [ek0_8]
      exact ⟨rfl, Nk0_8⟩
  · have K0_9 : ∀ t, Steps p.tables e below (s₁.setTop (mkF m 63 #[.val (.int p0_0), .val (.int p0_1), .val (.int p0_2), .val (.int p0_3), .val (.long q0_4), .second, .val (.long q0_5), .second, .val (.int (p0_3 &&& (3 : Int32))), .unset, .unset, .unset, .unset, .unset, .unset, .unset, .unset, .unset, .unset, .unset, .unset, .unset] [])) t → Steps p.tables e below (s₁.setTop (mkF m 7 #[.val (.int p0_0), .val (.int p0_1), .val (.int p0_2), .val (.int p0_3), .val (.long q0_4), .second, .val (.long q0_5), .second, .val (.int (p0_3 &&& (3 : Int32))), .unset, .unset, .unset, .unset, .unset, .unset, .unset, .unset, .unset, .unset, .unset, .unset, .unset] [(.int (p0_3 &&& (3 : Int32)))])) t := by
      intro t kt
      show Steps p.tables e below (s₁.setTop (mkF m 7 #[.val (.int p0_0), .val (.int p0_1), .val (.int p0_2), .val (.int p0_3), .val (.long q0_4), .second, .val (.long q0_5), .second, .val (.int (p0_3 &&& (3 : Int32))), .unset, .unset, .unset, .unset, .unset, .unset, .unset, .unset, .unset, .unset, .unset, .unset, .unset] [(.int (p0_3 &&& (3 : Int32)))])) _
      refine XS.ifYes X0.here hx rfl (pc0 := 7) (pc' := 63) rfl (hb hby at_7) rfl (XT.i0_ne_t hs0_1) (by decide) (by decide) ?_
      exact kt
    have Ks0_10 : ∀ t, Steps p.tables e below (s₁.setTop (mkF m 76 #[.val (.int p0_0), .val (.int p0_1), .val (.int p0_2), .val (.int p0_3), .val (.long q0_4), .second, .val (.long q0_5), .second, .val (.int (p0_3 &&& (3 : Int32))), .val (.long (own_v0_1 p0_1)), .second, .unset, .unset, .unset, .unset, .unset, .unset, .unset, .unset, .unset, .unset, .unset] [(.int (1 : Int32)), (.int (p0_3 &&& (3 : Int32)))])) t → Steps p.tables e below (s₁.setTop (mkF m 63 #[.val (.int p0_0), .val (.int p0_1), .val (.int p0_2), .val (.int p0_3), .val (.long q0_4), .second, .val (.long q0_5), .second, .val (.int (p0_3 &&& (3 : Int32))), .unset, .unset, .unset, .unset, .unset, .unset, .unset, .unset, .unset, .unset, .unset, .unset, .unset] [])) t := by
      intro t kt
      show Steps p.tables e below (s₁.setTop (mkF m 63 #[.val (.int p0_0), .val (.int p0_1), .val (.int p0_2), .val (.int p0_3), .val (.long q0_4), .second, .val (.long q0_5), .second, .val (.int (p0_3 &&& (3 : Int32))), .unset, .unset, .unset, .unset, .unset, .unset, .unset, .unset, .unset, .unset, .unset, .unset, .unset] [])) _
      refine XS.iloadN X0.here hx rfl (hb hby at_63) rfl ?_
      show Steps p.tables e below (s₁.setTop (mkF m 64 #[.val (.int p0_0), .val (.int p0_1), .val (.int p0_2), .val (.int p0_3), .val (.long q0_4), .second, .val (.long q0_5), .second, .val (.int (p0_3 &&& (3 : Int32))), .unset, .unset, .unset, .unset, .unset, .unset, .unset, .unset, .unset, .unset, .unset, .unset, .unset] [(.int p0_1)])) _
      refine XS.sipush X0.here hx rfl (hb hby at_64) ?_
      show Steps p.tables e below (s₁.setTop (mkF m 67 #[.val (.int p0_0), .val (.int p0_1), .val (.int p0_2), .val (.int p0_3), .val (.long q0_4), .second, .val (.long q0_5), .second, .val (.int (p0_3 &&& (3 : Int32))), .unset, .unset, .unset, .unset, .unset, .unset, .unset, .unset, .unset, .unset, .unset, .unset, .unset] [(.int (1023 : Int32)), (.int p0_1)])) _
      refine XS.iand X0.here hx rfl (hb hby at_67) rfl ?_
      show Steps p.tables e below (s₁.setTop (mkF m 68 #[.val (.int p0_0), .val (.int p0_1), .val (.int p0_2), .val (.int p0_3), .val (.long q0_4), .second, .val (.long q0_5), .second, .val (.int (p0_3 &&& (3 : Int32))), .unset, .unset, .unset, .unset, .unset, .unset, .unset, .unset, .unset, .unset, .unset, .unset, .unset] [(.int (p0_1 &&& (1023 : Int32)))])) _
      refine XS.iconst X0.here hx rfl (hb hby at_68) ?_
      show Steps p.tables e below (s₁.setTop (mkF m 69 #[.val (.int p0_0), .val (.int p0_1), .val (.int p0_2), .val (.int p0_3), .val (.long q0_4), .second, .val (.long q0_5), .second, .val (.int (p0_3 &&& (3 : Int32))), .unset, .unset, .unset, .unset, .unset, .unset, .unset, .unset, .unset, .unset, .unset, .unset, .unset] [(.int (1 : Int32)), (.int (p0_1 &&& (1023 : Int32)))])) _
      refine XS.iadd X0.here hx rfl (hb hby at_69) rfl ?_
      show Steps p.tables e below (s₁.setTop (mkF m 70 #[.val (.int p0_0), .val (.int p0_1), .val (.int p0_2), .val (.int p0_3), .val (.long q0_4), .second, .val (.long q0_5), .second, .val (.int (p0_3 &&& (3 : Int32))), .unset, .unset, .unset, .unset, .unset, .unset, .unset, .unset, .unset, .unset, .unset, .unset, .unset] [(.int ((p0_1 &&& (1023 : Int32)) + (1 : Int32)))])) _
      refine XT.i2l X0.here hx rfl (hb hby at_70) rfl ?_
      show Steps p.tables e below (s₁.setTop (mkF m 71 #[.val (.int p0_0), .val (.int p0_1), .val (.int p0_2), .val (.int p0_3), .val (.long q0_4), .second, .val (.long q0_5), .second, .val (.int (p0_3 &&& (3 : Int32))), .unset, .unset, .unset, .unset, .unset, .unset, .unset, .unset, .unset, .unset, .unset, .unset, .unset] [(.long ((p0_1 &&& (1023 : Int32)) + (1 : Int32)).toInt64)])) _
      refine XT.lstore X0.here hx rfl (hb hby at_71) rfl (l' := #[.val (.int p0_0), .val (.int p0_1), .val (.int p0_2), .val (.int p0_3), .val (.long q0_4), .second, .val (.long q0_5), .second, .val (.int (p0_3 &&& (3 : Int32))), .val (.long (own_v0_1 p0_1)), .second, .unset, .unset, .unset, .unset, .unset, .unset, .unset, .unset, .unset, .unset, .unset]) rfl ?_
      show Steps p.tables e below (s₁.setTop (mkF m 73 #[.val (.int p0_0), .val (.int p0_1), .val (.int p0_2), .val (.int p0_3), .val (.long q0_4), .second, .val (.long q0_5), .second, .val (.int (p0_3 &&& (3 : Int32))), .val (.long (own_v0_1 p0_1)), .second, .unset, .unset, .unset, .unset, .unset, .unset, .unset, .unset, .unset, .unset, .unset] [])) _
      refine XS.iload X0.here hx rfl (hb hby at_73) rfl ?_
      show Steps p.tables e below (s₁.setTop (mkF m 75 #[.val (.int p0_0), .val (.int p0_1), .val (.int p0_2), .val (.int p0_3), .val (.long q0_4), .second, .val (.long q0_5), .second, .val (.int (p0_3 &&& (3 : Int32))), .val (.long (own_v0_1 p0_1)), .second, .unset, .unset, .unset, .unset, .unset, .unset, .unset, .unset, .unset, .unset, .unset] [(.int (p0_3 &&& (3 : Int32)))])) _
      refine XS.iconst X0.here hx rfl (hb hby at_75) ?_
      exact kt
    by_cases hs0_10 : (p0_3 &&& (3 : Int32)) = (1 : Int32)
    · have K0_11 : ∀ t, Steps p.tables e below (s₁.setTop (mkF m 79 #[.val (.int p0_0), .val (.int p0_1), .val (.int p0_2), .val (.int p0_3), .val (.long q0_4), .second, .val (.long q0_5), .second, .val (.int (p0_3 &&& (3 : Int32))), .val (.long (own_v0_1 p0_1)), .second, .unset, .unset, .unset, .unset, .unset, .unset, .unset, .unset, .unset, .unset, .unset] [])) t → Steps p.tables e below (s₁.setTop (mkF m 76 #[.val (.int p0_0), .val (.int p0_1), .val (.int p0_2), .val (.int p0_3), .val (.long q0_4), .second, .val (.long q0_5), .second, .val (.int (p0_3 &&& (3 : Int32))), .val (.long (own_v0_1 p0_1)), .second, .unset, .unset, .unset, .unset, .unset, .unset, .unset, .unset, .unset, .unset, .unset] [(.int (1 : Int32)), (.int (p0_3 &&& (3 : Int32)))])) t := by
        intro t kt
        show Steps p.tables e below (s₁.setTop (mkF m 76 #[.val (.int p0_0), .val (.int p0_1), .val (.int p0_2), .val (.int p0_3), .val (.long q0_4), .second, .val (.long q0_5), .second, .val (.int (p0_3 &&& (3 : Int32))), .val (.long (own_v0_1 p0_1)), .second, .unset, .unset, .unset, .unset, .unset, .unset, .unset, .unset, .unset, .unset, .unset] [(.int (1 : Int32)), (.int (p0_3 &&& (3 : Int32)))])) _
        refine XS.icmpNo X0.here hx rfl (hb hby at_76) rfl (XT.ii_ne_f hs0_10) ?_
        exact kt
      obtain ⟨Tn0_12, hn0_12, Xn0_12, en0_12, En0_12, An0_12, Dn0_12, -, stn0_12⟩ := newO X0 hx hZ hown (hw _ (List.mem_of_getElem? (i := 2) rfl)) (hw _ (List.mem_of_getElem? (i := 3) rfl)) (hw _ (List.mem_of_getElem? (i := 4) rfl)) e0 (g := (mkF m 104 #[.val (.int p0_0), .val (.int p0_1), .val (.int p0_2), .val (.int p0_3), .val (.long q0_4), .second, .val (.long q0_5), .second, .val (.int (p0_3 &&& (3 : Int32))), .val (.long (own_v0_1 p0_1)), .second, .val (.long (p0_2 &&& (7 : Int32)).toInt64), .second, .val (.long (own_v0_2 p0_0 p0_1 p0_2)), .second, .unset, .unset, .unset, .unset, .unset, .unset, .unset] [])) rfl (hb hby at_104) (by decide) (by decide)
      obtain ⟨bn0_12, gn0_12⟩ : ∃ z, z = h0.size := ⟨_, rfl⟩
      rw [← gn0_12] at An0_12 Dn0_12 stn0_12
      have g_bn0_12 : n0 ≤ bn0_12 := Nat.le_trans Z0 (Nat.le_of_eq gn0_12.symm)
      have sz_bn0_12 : h0.size ≤ bn0_12 := Nat.le_trans Zr (Nat.le_of_eq gn0_12.symm)
      have sz0_13 : h0.size ≤ hn0_12.size := Nat.le_trans Zr En0_12.1
      have F_inUse_bn0_12 : Fld Z hn0_12 bn0_12 "com/example/ostia/ostia/PoolStatus" "inUse" "I" (.int (0 : Int32)) := Dn0_12 (Or.inr (hw _ (List.mem_of_getElem? (i := 12) rfl))) (ty := .int) (by decide)
      have F_idle_bn0_12 : Fld Z hn0_12 bn0_12 "com/example/ostia/ostia/PoolStatus" "idle" "I" (.int (0 : Int32)) := Dn0_12 (Or.inr (hw _ (List.mem_of_getElem? (i := 14) rfl))) (ty := .int) (by decide)
      have F_waiting_bn0_12 : Fld Z hn0_12 bn0_12 "com/example/ostia/ostia/PoolStatus" "waiting" "I" (.int (0 : Int32)) := Dn0_12 (Or.inr (hw _ (List.mem_of_getElem? (i := 16) rfl))) (ty := .int) (by decide)
      have F_opened_bn0_12 : Fld Z hn0_12 bn0_12 "com/example/ostia/ostia/PoolStatus" "opened" "J" (.long (0 : Int64)) := Dn0_12 (Or.inr (hw _ (List.mem_of_getElem? (i := 18) rfl))) (ty := .long) (by decide)
      have F_closed_bn0_12 : Fld Z hn0_12 bn0_12 "com/example/ostia/ostia/PoolStatus" "closed" "J" (.long (0 : Int64)) := Dn0_12 (Or.inr (hw _ (List.mem_of_getElem? (i := 20) rfl))) (ty := .long) (by decide)
      have F_calls_bn0_12 : Fld Z hn0_12 bn0_12 "com/example/ostia/ostia/PoolStatus" "calls" "J" (.long (0 : Int64)) := Dn0_12 (Or.inr (hw _ (List.mem_of_getElem? (i := 22) rfl))) (ty := .long) (by decide)
      have F_timeouts_bn0_12 : Fld Z hn0_12 bn0_12 "com/example/ostia/ostia/PoolStatus" "timeouts" "J" (.long (0 : Int64)) := Dn0_12 (Or.inr (hw _ (List.mem_of_getElem? (i := 24) rfl))) (ty := .long) (by decide)
      have F_totalWaitMicros_bn0_12 : Fld Z hn0_12 bn0_12 "com/example/ostia/ostia/PoolStatus" "totalWaitMicros" "J" (.long (0 : Int64)) := Dn0_12 (Or.inr (hw _ (List.mem_of_getElem? (i := 26) rfl))) (ty := .long) (by decide)
      have F_longestWaitNanos_bn0_12 : Fld Z hn0_12 bn0_12 "com/example/ostia/ostia/PoolStatus" "longestWaitNanos" "J" (.long (0 : Int64)) := Dn0_12 (Or.inr (hw _ (List.mem_of_getElem? (i := 28) rfl))) (ty := .long) (by decide)
      obtain ⟨_, _, ⟨Tk0_14, Lk0_14, kk0_14, nk0_14⟩, -, Xk0_14, ⟨Lck0_14, hQk0_14, lk0_14, yk0_14, zk0_14⟩, stk0_14⟩ := Xn0_12.specialBack hx (y := (⟨"com/example/ostia/ostia/PoolStatus", "<init>", "(IIIJJJJJJ)V"⟩ : MethodName)) rfl hown (mvT hZ (hw _ (List.mem_of_getElem? (i := 5) rfl))) (mvT hZ (hw _ (List.mem_of_getElem? (i := 6) rfl))) (mvT hZ (hw _ (List.mem_of_getElem? (i := 7) rfl))) (by decide) (backOf (W := 1) (own_rm1 l Z a0 hw [] bn0_12 (0 : Int32) (0 : Int32) (0 : Int32) (0 : Int64) (0 : Int64) (own_v0_1 p0_1) (0 : Int64) (own_v0_2 p0_0 p0_1 p0_2) (0 : Int64) (.int (0 : Int32)) (.int (0 : Int32)) (.int (0 : Int32)) (.long (0 : Int64)) (.long (0 : Int64)) (.long (0 : Int64)) (.long (0 : Int64)) (.long (0 : Int64)) (.long (0 : Int64)) hn0_12 n0 (Nat.le_trans Z0 sz0_13) An0_12 F_inUse_bn0_12 g_bn0_12 F_idle_bn0_12 F_waiting_bn0_12 F_opened_bn0_12 F_closed_bn0_12 F_calls_bn0_12 F_timeouts_bn0_12 F_totalWaitMicros_bn0_12 F_longestWaitNanos_bn0_12) hZ (hw _ (List.mem_of_getElem? (i := 7) rfl)) (hw _ (List.mem_of_getElem? (i := 4) rfl)) (by decide) (by decide)) (g := (mkF m 119 #[.val (.int p0_0), .val (.int p0_1), .val (.int p0_2), .val (.int p0_3), .val (.long q0_4), .second, .val (.long q0_5), .second, .val (.int (p0_3 &&& (3 : Int32))), .val (.long (own_v0_1 p0_1)), .second, .val (.long (p0_2 &&& (7 : Int32)).toInt64), .second, .val (.long (own_v0_2 p0_0 p0_1 p0_2)), .second, .unset, .unset, .unset, .unset, .unset, .unset, .unset] [(.long (0 : Int64)), (.long (own_v0_2 p0_0 p0_1 p0_2)), (.long (0 : Int64)), (.long (own_v0_1 p0_1)), (.long (0 : Int64)), (.long (0 : Int64)), (.int (0 : Int32)), (.int (0 : Int32)), (.int (0 : Int32)), (.ref bn0_12), (.ref bn0_12)])) rfl (by rw [hml]; rfl) (Steps.refl _) (a := bn0_12) (argsL := [(.int (0 : Int32)), (.int (0 : Int32)), (.int (0 : Int32)), (.long (0 : Int64)), (.long (0 : Int64)), (.long (own_v0_1 p0_1)), (.long (0 : Int64)), (.long (own_v0_2 p0_0 p0_1 p0_2)), (.long (0 : Int64))]) (rest := [(.ref bn0_12)]) (lenOf own_pd0 rfl) rfl (by show 2 * 0 + _ ≤ _; exact Nat.le_of_eq rfl) (hb hby at_119) (fun _ _ => ⟨rfl, en0_12, (by decide : 1 + 0 ≤ _), (by decide : 9 + 0 ≤ _)⟩)
      dsimp only [Pt.U, Pt.locs, Pt.cells, Pt.slots] at Xk0_14 lk0_14 yk0_14 zk0_14 stk0_14 hQk0_14
      subst lk0_14 yk0_14 zk0_14
      obtain ⟨rfl, Nk0_14q, Kk0_14, Qk0_14_0, Qk0_14_1, Qk0_14_2, Qk0_14_3, Qk0_14_4, Qk0_14_5, Qk0_14_6, Qk0_14_7, Qk0_14_8, Qk0_14_9⟩ := hQk0_14
      have sz0_15 : h0.size ≤ Tk0_14.heap.size := Nat.le_trans sz0_13 Kk0_14.1
      have Nk0_14 := Fr.app N0 Nk0_14q
      obtain ⟨cqk0_16, kqk0_16, qk0_16a, qk0_16b, qk0_16c⟩ := isOf hZ rfl Qk0_14_0
      obtain ⟨_, _, ⟨Tk0_16, Lk0_16, kk0_16, nk0_16⟩, -, Xk0_16, ⟨Lck0_16, hQk0_16, lk0_16, yk0_16, zk0_16⟩, stk0_16⟩ := Xk0_14.virtualBack hx (y := (⟨"com/example/ostia/ostia/PoolStatus", "averageWaitMillis", "()D"⟩ : MethodName)) (z := (⟨"com/example/ostia/ostia/PoolStatus", "averageWaitMillis", "()D"⟩ : MethodName)) hown (mvT hZ (hw _ (List.mem_of_getElem? (i := 31) rfl))) (mvT hZ (hw _ (List.mem_of_getElem? (i := 32) rfl))) (notFace_of_selects (args := #[]) (mvT hZ (hw _ (List.mem_of_getElem? (i := 34) rfl)))) (mvT hZ (hw _ (List.mem_of_getElem? (i := 34) rfl))) (mvT hZ (hw _ (List.mem_of_getElem? (i := 33) rfl))) (by decide) (backOf (W := 0) (own_rm3 l Z a0 hw [] bn0_12 (own_v0_1 p0_1) (own_v0_2 p0_0 p0_1 p0_2) Tk0_14.heap n0 (Nat.le_trans Z0 sz0_15) Qk0_14_6 Qk0_14_8 c142_nn19 c142_nn25) hZ (hw _ (List.mem_of_getElem? (i := 35) rfl)) (hw _ (List.mem_of_getElem? (i := 4) rfl)) (by decide) (by decide)) qk0_16a qk0_16c (g := (mkF m 142 #[.val (.int p0_0), .val (.int p0_1), .val (.int p0_2), .val (.int p0_3), .val (.long q0_4), .second, .val (.long q0_5), .second, .val (.int (p0_3 &&& (3 : Int32))), .val (.long (own_v0_1 p0_1)), .second, .val (.long (p0_2 &&& (7 : Int32)).toInt64), .second, .val (.long (own_v0_2 p0_0 p0_1 p0_2)), .second, .val (.ref bn0_12), .val (.double (own_v0_3 p0_0 p0_2)), .second, .unset, .unset, .unset, .unset] [(.ref bn0_12)])) rfl (by rw [hml]; rfl) (Steps.refl _) (argsL := []) (rest := []) (lenOf own_pd1 rfl) rfl (by show 2 * 0 + _ ≤ _; exact Nat.le_of_eq rfl) (hb hby at_142) (fun _ _ => ⟨rfl, rfl, (by decide : 1 + 0 ≤ _), (by decide : 9 + 0 ≤ _)⟩)
      dsimp only [Pt.U, Pt.locs, Pt.cells, Pt.slots] at Xk0_16 lk0_16 yk0_16 zk0_16 stk0_16 hQk0_16
      subst lk0_16 yk0_16 zk0_16
      obtain ⟨rfl, Nk0_16q, ek0_16⟩ := hQk0_16
      have Nk0_16 := Fr.app Nk0_14 Nk0_16q
      obtain ⟨fs, hr, hrun, hended, hW, hsame⟩ := Xk0_16.leave (v := some (.int (1 : Int32))) (fun h => by rw [Bd.returns] at h; cases h)
      refine ⟨_, _, pre0 _ (Ks0_1 _ (K0_9 _ (Ks0_10 _ (K0_11 _ (?_))))), hrun, hended, _, _, rfl, ?_, ⟨_, rfl⟩, hW, hsame.mono (by decide) (by decide)⟩
      · show Steps p.tables e below (s₁.setTop (mkF m 79 #[.val (.int p0_0), .val (.int p0_1), .val (.int p0_2), .val (.int p0_3), .val (.long q0_4), .second, .val (.long q0_5), .second, .val (.int (p0_3 &&& (3 : Int32))), .val (.long (own_v0_1 p0_1)), .second, .unset, .unset, .unset, .unset, .unset, .unset, .unset, .unset, .unset, .unset, .unset] [])) _
        refine XS.iloadN X0.here hx rfl (hb hby at_79) rfl ?_
        show Steps p.tables e below (s₁.setTop (mkF m 80 #[.val (.int p0_0), .val (.int p0_1), .val (.int p0_2), .val (.int p0_3), .val (.long q0_4), .second, .val (.long q0_5), .second, .val (.int (p0_3 &&& (3 : Int32))), .val (.long (own_v0_1 p0_1)), .second, .unset, .unset, .unset, .unset, .unset, .unset, .unset, .unset, .unset, .unset, .unset] [(.int p0_2)])) _
        refine XS.bipush X0.here hx rfl (hb hby at_80) ?_
        show Steps p.tables e below (s₁.setTop (mkF m 82 #[.val (.int p0_0), .val (.int p0_1), .val (.int p0_2), .val (.int p0_3), .val (.long q0_4), .second, .val (.long q0_5), .second, .val (.int (p0_3 &&& (3 : Int32))), .val (.long (own_v0_1 p0_1)), .second, .unset, .unset, .unset, .unset, .unset, .unset, .unset, .unset, .unset, .unset, .unset] [(.int (7 : Int32)), (.int p0_2)])) _
        refine XS.iand X0.here hx rfl (hb hby at_82) rfl ?_
        show Steps p.tables e below (s₁.setTop (mkF m 83 #[.val (.int p0_0), .val (.int p0_1), .val (.int p0_2), .val (.int p0_3), .val (.long q0_4), .second, .val (.long q0_5), .second, .val (.int (p0_3 &&& (3 : Int32))), .val (.long (own_v0_1 p0_1)), .second, .unset, .unset, .unset, .unset, .unset, .unset, .unset, .unset, .unset, .unset, .unset] [(.int (p0_2 &&& (7 : Int32)))])) _
        refine XT.i2l X0.here hx rfl (hb hby at_83) rfl ?_
        show Steps p.tables e below (s₁.setTop (mkF m 84 #[.val (.int p0_0), .val (.int p0_1), .val (.int p0_2), .val (.int p0_3), .val (.long q0_4), .second, .val (.long q0_5), .second, .val (.int (p0_3 &&& (3 : Int32))), .val (.long (own_v0_1 p0_1)), .second, .unset, .unset, .unset, .unset, .unset, .unset, .unset, .unset, .unset, .unset, .unset] [(.long (p0_2 &&& (7 : Int32)).toInt64)])) _
        refine XT.lstore X0.here hx rfl (hb hby at_84) rfl (l' := #[.val (.int p0_0), .val (.int p0_1), .val (.int p0_2), .val (.int p0_3), .val (.long q0_4), .second, .val (.long q0_5), .second, .val (.int (p0_3 &&& (3 : Int32))), .val (.long (own_v0_1 p0_1)), .second, .val (.long (p0_2 &&& (7 : Int32)).toInt64), .second, .unset, .unset, .unset, .unset, .unset, .unset, .unset, .unset, .unset]) rfl ?_
        show Steps p.tables e below (s₁.setTop (mkF m 86 #[.val (.int p0_0), .val (.int p0_1), .val (.int p0_2), .val (.int p0_3), .val (.long q0_4), .second, .val (.long q0_5), .second, .val (.int (p0_3 &&& (3 : Int32))), .val (.long (own_v0_1 p0_1)), .second, .val (.long (p0_2 &&& (7 : Int32)).toInt64), .second, .unset, .unset, .unset, .unset, .unset, .unset, .unset, .unset, .unset] [])) _
        refine XT.lload X0.here hx rfl (hb hby at_86) rfl ?_
        show Steps p.tables e below (s₁.setTop (mkF m 88 #[.val (.int p0_0), .val (.int p0_1), .val (.int p0_2), .val (.int p0_3), .val (.long q0_4), .second, .val (.long q0_5), .second, .val (.int (p0_3 &&& (3 : Int32))), .val (.long (own_v0_1 p0_1)), .second, .val (.long (p0_2 &&& (7 : Int32)).toInt64), .second, .unset, .unset, .unset, .unset, .unset, .unset, .unset, .unset, .unset] [(.long (own_v0_1 p0_1))])) _
        refine X0.ldc2Long hx hown (mvT hZ (hw _ (List.mem_of_getElem? (i := 0) rfl))) (g := (mkF m 88 #[.val (.int p0_0), .val (.int p0_1), .val (.int p0_2), .val (.int p0_3), .val (.long q0_4), .second, .val (.long q0_5), .second, .val (.int (p0_3 &&& (3 : Int32))), .val (.long (own_v0_1 p0_1)), .second, .val (.long (p0_2 &&& (7 : Int32)).toInt64), .second, .unset, .unset, .unset, .unset, .unset, .unset, .unset, .unset, .unset] [(.long (own_v0_1 p0_1))])) rfl (hb hby at_88) _ ?_
        show Steps p.tables e below (s₁.setTop (mkF m 91 #[.val (.int p0_0), .val (.int p0_1), .val (.int p0_2), .val (.int p0_3), .val (.long q0_4), .second, .val (.long q0_5), .second, .val (.int (p0_3 &&& (3 : Int32))), .val (.long (own_v0_1 p0_1)), .second, .val (.long (p0_2 &&& (7 : Int32)).toInt64), .second, .unset, .unset, .unset, .unset, .unset, .unset, .unset, .unset, .unset] [(.long (1000 : Int64)), (.long (own_v0_1 p0_1))])) _
        refine XS.iloadN X0.here hx rfl (hb hby at_91) rfl ?_
        show Steps p.tables e below (s₁.setTop (mkF m 92 #[.val (.int p0_0), .val (.int p0_1), .val (.int p0_2), .val (.int p0_3), .val (.long q0_4), .second, .val (.long q0_5), .second, .val (.int (p0_3 &&& (3 : Int32))), .val (.long (own_v0_1 p0_1)), .second, .val (.long (p0_2 &&& (7 : Int32)).toInt64), .second, .unset, .unset, .unset, .unset, .unset, .unset, .unset, .unset, .unset] [(.int p0_0), (.long (1000 : Int64)), (.long (own_v0_1 p0_1))])) _
        refine XT.i2l X0.here hx rfl (hb hby at_92) rfl ?_
        show Steps p.tables e below (s₁.setTop (mkF m 93 #[.val (.int p0_0), .val (.int p0_1), .val (.int p0_2), .val (.int p0_3), .val (.long q0_4), .second, .val (.long q0_5), .second, .val (.int (p0_3 &&& (3 : Int32))), .val (.long (own_v0_1 p0_1)), .second, .val (.long (p0_2 &&& (7 : Int32)).toInt64), .second, .unset, .unset, .unset, .unset, .unset, .unset, .unset, .unset, .unset] [(.long p0_0.toInt64), (.long (1000 : Int64)), (.long (own_v0_1 p0_1))])) _
        refine XT.lmul X0.here hx rfl (hb hby at_93) rfl ?_
        show Steps p.tables e below (s₁.setTop (mkF m 94 #[.val (.int p0_0), .val (.int p0_1), .val (.int p0_2), .val (.int p0_3), .val (.long q0_4), .second, .val (.long q0_5), .second, .val (.int (p0_3 &&& (3 : Int32))), .val (.long (own_v0_1 p0_1)), .second, .val (.long (p0_2 &&& (7 : Int32)).toInt64), .second, .unset, .unset, .unset, .unset, .unset, .unset, .unset, .unset, .unset] [(.long ((1000 : Int64) * p0_0.toInt64)), (.long (own_v0_1 p0_1))])) _
        refine X0.ldc2Long hx hown (mvT hZ (hw _ (List.mem_of_getElem? (i := 1) rfl))) (g := (mkF m 94 #[.val (.int p0_0), .val (.int p0_1), .val (.int p0_2), .val (.int p0_3), .val (.long q0_4), .second, .val (.long q0_5), .second, .val (.int (p0_3 &&& (3 : Int32))), .val (.long (own_v0_1 p0_1)), .second, .val (.long (p0_2 &&& (7 : Int32)).toInt64), .second, .unset, .unset, .unset, .unset, .unset, .unset, .unset, .unset, .unset] [(.long ((1000 : Int64) * p0_0.toInt64)), (.long (own_v0_1 p0_1))])) rfl (hb hby at_94) _ ?_
        show Steps p.tables e below (s₁.setTop (mkF m 97 #[.val (.int p0_0), .val (.int p0_1), .val (.int p0_2), .val (.int p0_3), .val (.long q0_4), .second, .val (.long q0_5), .second, .val (.int (p0_3 &&& (3 : Int32))), .val (.long (own_v0_1 p0_1)), .second, .val (.long (p0_2 &&& (7 : Int32)).toInt64), .second, .unset, .unset, .unset, .unset, .unset, .unset, .unset, .unset, .unset] [(.long (125 : Int64)), (.long ((1000 : Int64) * p0_0.toInt64)), (.long (own_v0_1 p0_1))])) _
        refine XT.lload X0.here hx rfl (hb hby at_97) rfl ?_
        show Steps p.tables e below (s₁.setTop (mkF m 99 #[.val (.int p0_0), .val (.int p0_1), .val (.int p0_2), .val (.int p0_3), .val (.long q0_4), .second, .val (.long q0_5), .second, .val (.int (p0_3 &&& (3 : Int32))), .val (.long (own_v0_1 p0_1)), .second, .val (.long (p0_2 &&& (7 : Int32)).toInt64), .second, .unset, .unset, .unset, .unset, .unset, .unset, .unset, .unset, .unset] [(.long (p0_2 &&& (7 : Int32)).toInt64), (.long (125 : Int64)), (.long ((1000 : Int64) * p0_0.toInt64)), (.long (own_v0_1 p0_1))])) _
        refine XT.lmul X0.here hx rfl (hb hby at_99) rfl ?_
        show Steps p.tables e below (s₁.setTop (mkF m 100 #[.val (.int p0_0), .val (.int p0_1), .val (.int p0_2), .val (.int p0_3), .val (.long q0_4), .second, .val (.long q0_5), .second, .val (.int (p0_3 &&& (3 : Int32))), .val (.long (own_v0_1 p0_1)), .second, .val (.long (p0_2 &&& (7 : Int32)).toInt64), .second, .unset, .unset, .unset, .unset, .unset, .unset, .unset, .unset, .unset] [(.long ((125 : Int64) * (p0_2 &&& (7 : Int32)).toInt64)), (.long ((1000 : Int64) * p0_0.toInt64)), (.long (own_v0_1 p0_1))])) _
        refine XT.ladd X0.here hx rfl (hb hby at_100) rfl ?_
        show Steps p.tables e below (s₁.setTop (mkF m 101 #[.val (.int p0_0), .val (.int p0_1), .val (.int p0_2), .val (.int p0_3), .val (.long q0_4), .second, .val (.long q0_5), .second, .val (.int (p0_3 &&& (3 : Int32))), .val (.long (own_v0_1 p0_1)), .second, .val (.long (p0_2 &&& (7 : Int32)).toInt64), .second, .unset, .unset, .unset, .unset, .unset, .unset, .unset, .unset, .unset] [(.long (((1000 : Int64) * p0_0.toInt64) + ((125 : Int64) * (p0_2 &&& (7 : Int32)).toInt64))), (.long (own_v0_1 p0_1))])) _
        refine XT.lmul X0.here hx rfl (hb hby at_101) rfl ?_
        show Steps p.tables e below (s₁.setTop (mkF m 102 #[.val (.int p0_0), .val (.int p0_1), .val (.int p0_2), .val (.int p0_3), .val (.long q0_4), .second, .val (.long q0_5), .second, .val (.int (p0_3 &&& (3 : Int32))), .val (.long (own_v0_1 p0_1)), .second, .val (.long (p0_2 &&& (7 : Int32)).toInt64), .second, .unset, .unset, .unset, .unset, .unset, .unset, .unset, .unset, .unset] [(.long ((own_v0_1 p0_1) * (((1000 : Int64) * p0_0.toInt64) + ((125 : Int64) * (p0_2 &&& (7 : Int32)).toInt64))))])) _
        refine XT.lstore X0.here hx rfl (hb hby at_102) rfl (l' := #[.val (.int p0_0), .val (.int p0_1), .val (.int p0_2), .val (.int p0_3), .val (.long q0_4), .second, .val (.long q0_5), .second, .val (.int (p0_3 &&& (3 : Int32))), .val (.long (own_v0_1 p0_1)), .second, .val (.long (p0_2 &&& (7 : Int32)).toInt64), .second, .val (.long (own_v0_2 p0_0 p0_1 p0_2)), .second, .unset, .unset, .unset, .unset, .unset, .unset, .unset]) rfl ?_
        show Steps p.tables e below (s₁.setTop (mkF m 104 #[.val (.int p0_0), .val (.int p0_1), .val (.int p0_2), .val (.int p0_3), .val (.long q0_4), .second, .val (.long q0_5), .second, .val (.int (p0_3 &&& (3 : Int32))), .val (.long (own_v0_1 p0_1)), .second, .val (.long (p0_2 &&& (7 : Int32)).toInt64), .second, .val (.long (own_v0_2 p0_0 p0_1 p0_2)), .second, .unset, .unset, .unset, .unset, .unset, .unset, .unset] [])) _
        refine stn0_12 _ ?_
        show Steps p.tables e below (Tn0_12.setTop (mkF m 107 #[.val (.int p0_0), .val (.int p0_1), .val (.int p0_2), .val (.int p0_3), .val (.long q0_4), .second, .val (.long q0_5), .second, .val (.int (p0_3 &&& (3 : Int32))), .val (.long (own_v0_1 p0_1)), .second, .val (.long (p0_2 &&& (7 : Int32)).toInt64), .second, .val (.long (own_v0_2 p0_0 p0_1 p0_2)), .second, .unset, .unset, .unset, .unset, .unset, .unset, .unset] [(.ref bn0_12)])) _
        refine XS.dup Xn0_12.here hx rfl (hb hby at_107) rfl rfl ?_
        show Steps p.tables e below (Tn0_12.setTop (mkF m 108 #[.val (.int p0_0), .val (.int p0_1), .val (.int p0_2), .val (.int p0_3), .val (.long q0_4), .second, .val (.long q0_5), .second, .val (.int (p0_3 &&& (3 : Int32))), .val (.long (own_v0_1 p0_1)), .second, .val (.long (p0_2 &&& (7 : Int32)).toInt64), .second, .val (.long (own_v0_2 p0_0 p0_1 p0_2)), .second, .unset, .unset, .unset, .unset, .unset, .unset, .unset] [(.ref bn0_12), (.ref bn0_12)])) _
        refine XS.iconst Xn0_12.here hx rfl (hb hby at_108) ?_
        show Steps p.tables e below (Tn0_12.setTop (mkF m 109 #[.val (.int p0_0), .val (.int p0_1), .val (.int p0_2), .val (.int p0_3), .val (.long q0_4), .second, .val (.long q0_5), .second, .val (.int (p0_3 &&& (3 : Int32))), .val (.long (own_v0_1 p0_1)), .second, .val (.long (p0_2 &&& (7 : Int32)).toInt64), .second, .val (.long (own_v0_2 p0_0 p0_1 p0_2)), .second, .unset, .unset, .unset, .unset, .unset, .unset, .unset] [(.int (0 : Int32)), (.ref bn0_12), (.ref bn0_12)])) _
        refine XS.iconst Xn0_12.here hx rfl (hb hby at_109) ?_
        show Steps p.tables e below (Tn0_12.setTop (mkF m 110 #[.val (.int p0_0), .val (.int p0_1), .val (.int p0_2), .val (.int p0_3), .val (.long q0_4), .second, .val (.long q0_5), .second, .val (.int (p0_3 &&& (3 : Int32))), .val (.long (own_v0_1 p0_1)), .second, .val (.long (p0_2 &&& (7 : Int32)).toInt64), .second, .val (.long (own_v0_2 p0_0 p0_1 p0_2)), .second, .unset, .unset, .unset, .unset, .unset, .unset, .unset] [(.int (0 : Int32)), (.int (0 : Int32)), (.ref bn0_12), (.ref bn0_12)])) _
        refine XS.iconst Xn0_12.here hx rfl (hb hby at_110) ?_
        show Steps p.tables e below (Tn0_12.setTop (mkF m 111 #[.val (.int p0_0), .val (.int p0_1), .val (.int p0_2), .val (.int p0_3), .val (.long q0_4), .second, .val (.long q0_5), .second, .val (.int (p0_3 &&& (3 : Int32))), .val (.long (own_v0_1 p0_1)), .second, .val (.long (p0_2 &&& (7 : Int32)).toInt64), .second, .val (.long (own_v0_2 p0_0 p0_1 p0_2)), .second, .unset, .unset, .unset, .unset, .unset, .unset, .unset] [(.int (0 : Int32)), (.int (0 : Int32)), (.int (0 : Int32)), (.ref bn0_12), (.ref bn0_12)])) _
        refine XT.lconst Xn0_12.here hx rfl (hb hby at_111) ?_
        show Steps p.tables e below (Tn0_12.setTop (mkF m 112 #[.val (.int p0_0), .val (.int p0_1), .val (.int p0_2), .val (.int p0_3), .val (.long q0_4), .second, .val (.long q0_5), .second, .val (.int (p0_3 &&& (3 : Int32))), .val (.long (own_v0_1 p0_1)), .second, .val (.long (p0_2 &&& (7 : Int32)).toInt64), .second, .val (.long (own_v0_2 p0_0 p0_1 p0_2)), .second, .unset, .unset, .unset, .unset, .unset, .unset, .unset] [(.long (0 : Int64)), (.int (0 : Int32)), (.int (0 : Int32)), (.int (0 : Int32)), (.ref bn0_12), (.ref bn0_12)])) _
        refine XT.lconst Xn0_12.here hx rfl (hb hby at_112) ?_
        show Steps p.tables e below (Tn0_12.setTop (mkF m 113 #[.val (.int p0_0), .val (.int p0_1), .val (.int p0_2), .val (.int p0_3), .val (.long q0_4), .second, .val (.long q0_5), .second, .val (.int (p0_3 &&& (3 : Int32))), .val (.long (own_v0_1 p0_1)), .second, .val (.long (p0_2 &&& (7 : Int32)).toInt64), .second, .val (.long (own_v0_2 p0_0 p0_1 p0_2)), .second, .unset, .unset, .unset, .unset, .unset, .unset, .unset] [(.long (0 : Int64)), (.long (0 : Int64)), (.int (0 : Int32)), (.int (0 : Int32)), (.int (0 : Int32)), (.ref bn0_12), (.ref bn0_12)])) _
        refine XT.lload Xn0_12.here hx rfl (hb hby at_113) rfl ?_
        show Steps p.tables e below (Tn0_12.setTop (mkF m 115 #[.val (.int p0_0), .val (.int p0_1), .val (.int p0_2), .val (.int p0_3), .val (.long q0_4), .second, .val (.long q0_5), .second, .val (.int (p0_3 &&& (3 : Int32))), .val (.long (own_v0_1 p0_1)), .second, .val (.long (p0_2 &&& (7 : Int32)).toInt64), .second, .val (.long (own_v0_2 p0_0 p0_1 p0_2)), .second, .unset, .unset, .unset, .unset, .unset, .unset, .unset] [(.long (own_v0_1 p0_1)), (.long (0 : Int64)), (.long (0 : Int64)), (.int (0 : Int32)), (.int (0 : Int32)), (.int (0 : Int32)), (.ref bn0_12), (.ref bn0_12)])) _
        refine XT.lconst Xn0_12.here hx rfl (hb hby at_115) ?_
        show Steps p.tables e below (Tn0_12.setTop (mkF m 116 #[.val (.int p0_0), .val (.int p0_1), .val (.int p0_2), .val (.int p0_3), .val (.long q0_4), .second, .val (.long q0_5), .second, .val (.int (p0_3 &&& (3 : Int32))), .val (.long (own_v0_1 p0_1)), .second, .val (.long (p0_2 &&& (7 : Int32)).toInt64), .second, .val (.long (own_v0_2 p0_0 p0_1 p0_2)), .second, .unset, .unset, .unset, .unset, .unset, .unset, .unset] [(.long (0 : Int64)), (.long (own_v0_1 p0_1)), (.long (0 : Int64)), (.long (0 : Int64)), (.int (0 : Int32)), (.int (0 : Int32)), (.int (0 : Int32)), (.ref bn0_12), (.ref bn0_12)])) _
        refine XT.lload Xn0_12.here hx rfl (hb hby at_116) rfl ?_
        show Steps p.tables e below (Tn0_12.setTop (mkF m 118 #[.val (.int p0_0), .val (.int p0_1), .val (.int p0_2), .val (.int p0_3), .val (.long q0_4), .second, .val (.long q0_5), .second, .val (.int (p0_3 &&& (3 : Int32))), .val (.long (own_v0_1 p0_1)), .second, .val (.long (p0_2 &&& (7 : Int32)).toInt64), .second, .val (.long (own_v0_2 p0_0 p0_1 p0_2)), .second, .unset, .unset, .unset, .unset, .unset, .unset, .unset] [(.long (own_v0_2 p0_0 p0_1 p0_2)), (.long (0 : Int64)), (.long (own_v0_1 p0_1)), (.long (0 : Int64)), (.long (0 : Int64)), (.int (0 : Int32)), (.int (0 : Int32)), (.int (0 : Int32)), (.ref bn0_12), (.ref bn0_12)])) _
        refine XT.lconst Xn0_12.here hx rfl (hb hby at_118) ?_
        show Steps p.tables e below (Tn0_12.setTop (mkF m 119 #[.val (.int p0_0), .val (.int p0_1), .val (.int p0_2), .val (.int p0_3), .val (.long q0_4), .second, .val (.long q0_5), .second, .val (.int (p0_3 &&& (3 : Int32))), .val (.long (own_v0_1 p0_1)), .second, .val (.long (p0_2 &&& (7 : Int32)).toInt64), .second, .val (.long (own_v0_2 p0_0 p0_1 p0_2)), .second, .unset, .unset, .unset, .unset, .unset, .unset, .unset] [(.long (0 : Int64)), (.long (own_v0_2 p0_0 p0_1 p0_2)), (.long (0 : Int64)), (.long (own_v0_1 p0_1)), (.long (0 : Int64)), (.long (0 : Int64)), (.int (0 : Int32)), (.int (0 : Int32)), (.int (0 : Int32)), (.ref bn0_12), (.ref bn0_12)])) _
        refine stk0_14.trans ?_
        show Steps p.tables e below (Tk0_14.setTop (mkF m 122 #[.val (.int p0_0), .val (.int p0_1), .val (.int p0_2), .val (.int p0_3), .val (.long q0_4), .second, .val (.long q0_5), .second, .val (.int (p0_3 &&& (3 : Int32))), .val (.long (own_v0_1 p0_1)), .second, .val (.long (p0_2 &&& (7 : Int32)).toInt64), .second, .val (.long (own_v0_2 p0_0 p0_1 p0_2)), .second, .unset, .unset, .unset, .unset, .unset, .unset, .unset] [(.ref bn0_12)])) _
        refine XS.astore Xk0_14.here hx rfl (hb hby at_122) rfl rfl (l' := #[.val (.int p0_0), .val (.int p0_1), .val (.int p0_2), .val (.int p0_3), .val (.long q0_4), .second, .val (.long q0_5), .second, .val (.int (p0_3 &&& (3 : Int32))), .val (.long (own_v0_1 p0_1)), .second, .val (.long (p0_2 &&& (7 : Int32)).toInt64), .second, .val (.long (own_v0_2 p0_0 p0_1 p0_2)), .second, .val (.ref bn0_12), .unset, .unset, .unset, .unset, .unset, .unset]) rfl ?_
        show Steps p.tables e below (Tk0_14.setTop (mkF m 124 #[.val (.int p0_0), .val (.int p0_1), .val (.int p0_2), .val (.int p0_3), .val (.long q0_4), .second, .val (.long q0_5), .second, .val (.int (p0_3 &&& (3 : Int32))), .val (.long (own_v0_1 p0_1)), .second, .val (.long (p0_2 &&& (7 : Int32)).toInt64), .second, .val (.long (own_v0_2 p0_0 p0_1 p0_2)), .second, .val (.ref bn0_12), .unset, .unset, .unset, .unset, .unset, .unset] [])) _
        refine Xk0_14.ldc2Long hx hown (mvT hZ (hw _ (List.mem_of_getElem? (i := 29) rfl))) (g := (mkF m 124 #[.val (.int p0_0), .val (.int p0_1), .val (.int p0_2), .val (.int p0_3), .val (.long q0_4), .second, .val (.long q0_5), .second, .val (.int (p0_3 &&& (3 : Int32))), .val (.long (own_v0_1 p0_1)), .second, .val (.long (p0_2 &&& (7 : Int32)).toInt64), .second, .val (.long (own_v0_2 p0_0 p0_1 p0_2)), .second, .val (.ref bn0_12), .unset, .unset, .unset, .unset, .unset, .unset] [])) rfl (hb hby at_124) _ ?_
        show Steps p.tables e below (Tk0_14.setTop (mkF m 127 #[.val (.int p0_0), .val (.int p0_1), .val (.int p0_2), .val (.int p0_3), .val (.long q0_4), .second, .val (.long q0_5), .second, .val (.int (p0_3 &&& (3 : Int32))), .val (.long (own_v0_1 p0_1)), .second, .val (.long (p0_2 &&& (7 : Int32)).toInt64), .second, .val (.long (own_v0_2 p0_0 p0_1 p0_2)), .second, .val (.ref bn0_12), .unset, .unset, .unset, .unset, .unset, .unset] [(.long (8 : Int64))])) _
        refine XS.iloadN Xk0_14.here hx rfl (hb hby at_127) rfl ?_
        show Steps p.tables e below (Tk0_14.setTop (mkF m 128 #[.val (.int p0_0), .val (.int p0_1), .val (.int p0_2), .val (.int p0_3), .val (.long q0_4), .second, .val (.long q0_5), .second, .val (.int (p0_3 &&& (3 : Int32))), .val (.long (own_v0_1 p0_1)), .second, .val (.long (p0_2 &&& (7 : Int32)).toInt64), .second, .val (.long (own_v0_2 p0_0 p0_1 p0_2)), .second, .val (.ref bn0_12), .unset, .unset, .unset, .unset, .unset, .unset] [(.int p0_0), (.long (8 : Int64))])) _
        refine XT.i2l Xk0_14.here hx rfl (hb hby at_128) rfl ?_
        show Steps p.tables e below (Tk0_14.setTop (mkF m 129 #[.val (.int p0_0), .val (.int p0_1), .val (.int p0_2), .val (.int p0_3), .val (.long q0_4), .second, .val (.long q0_5), .second, .val (.int (p0_3 &&& (3 : Int32))), .val (.long (own_v0_1 p0_1)), .second, .val (.long (p0_2 &&& (7 : Int32)).toInt64), .second, .val (.long (own_v0_2 p0_0 p0_1 p0_2)), .second, .val (.ref bn0_12), .unset, .unset, .unset, .unset, .unset, .unset] [(.long p0_0.toInt64), (.long (8 : Int64))])) _
        refine XT.lmul Xk0_14.here hx rfl (hb hby at_129) rfl ?_
        show Steps p.tables e below (Tk0_14.setTop (mkF m 130 #[.val (.int p0_0), .val (.int p0_1), .val (.int p0_2), .val (.int p0_3), .val (.long q0_4), .second, .val (.long q0_5), .second, .val (.int (p0_3 &&& (3 : Int32))), .val (.long (own_v0_1 p0_1)), .second, .val (.long (p0_2 &&& (7 : Int32)).toInt64), .second, .val (.long (own_v0_2 p0_0 p0_1 p0_2)), .second, .val (.ref bn0_12), .unset, .unset, .unset, .unset, .unset, .unset] [(.long ((8 : Int64) * p0_0.toInt64))])) _
        refine XT.lload Xk0_14.here hx rfl (hb hby at_130) rfl ?_
        show Steps p.tables e below (Tk0_14.setTop (mkF m 132 #[.val (.int p0_0), .val (.int p0_1), .val (.int p0_2), .val (.int p0_3), .val (.long q0_4), .second, .val (.long q0_5), .second, .val (.int (p0_3 &&& (3 : Int32))), .val (.long (own_v0_1 p0_1)), .second, .val (.long (p0_2 &&& (7 : Int32)).toInt64), .second, .val (.long (own_v0_2 p0_0 p0_1 p0_2)), .second, .val (.ref bn0_12), .unset, .unset, .unset, .unset, .unset, .unset] [(.long (p0_2 &&& (7 : Int32)).toInt64), (.long ((8 : Int64) * p0_0.toInt64))])) _
        refine XT.ladd Xk0_14.here hx rfl (hb hby at_132) rfl ?_
        show Steps p.tables e below (Tk0_14.setTop (mkF m 133 #[.val (.int p0_0), .val (.int p0_1), .val (.int p0_2), .val (.int p0_3), .val (.long q0_4), .second, .val (.long q0_5), .second, .val (.int (p0_3 &&& (3 : Int32))), .val (.long (own_v0_1 p0_1)), .second, .val (.long (p0_2 &&& (7 : Int32)).toInt64), .second, .val (.long (own_v0_2 p0_0 p0_1 p0_2)), .second, .val (.ref bn0_12), .unset, .unset, .unset, .unset, .unset, .unset] [(.long (((8 : Int64) * p0_0.toInt64) + (p0_2 &&& (7 : Int32)).toInt64))])) _
        refine XS.l2dS Xk0_14.here hx rfl (hb hby at_133) rfl rfl ?_
        show Steps p.tables e below (Tk0_14.setTop (mkF m 134 #[.val (.int p0_0), .val (.int p0_1), .val (.int p0_2), .val (.int p0_3), .val (.long q0_4), .second, .val (.long q0_5), .second, .val (.int (p0_3 &&& (3 : Int32))), .val (.long (own_v0_1 p0_1)), .second, .val (.long (p0_2 &&& (7 : Int32)).toInt64), .second, .val (.long (own_v0_2 p0_0 p0_1 p0_2)), .second, .val (.ref bn0_12), .unset, .unset, .unset, .unset, .unset, .unset] [(.double (FP.l2d (((8 : Int64) * p0_0.toInt64) + (p0_2 &&& (7 : Int32)).toInt64)))])) _
        refine Xk0_14.ldc2DoubleC hx hown (mvT hZ (hw _ (List.mem_of_getElem? (i := 30) rfl))) (g := (mkF m 134 #[.val (.int p0_0), .val (.int p0_1), .val (.int p0_2), .val (.int p0_3), .val (.long q0_4), .second, .val (.long q0_5), .second, .val (.int (p0_3 &&& (3 : Int32))), .val (.long (own_v0_1 p0_1)), .second, .val (.long (p0_2 &&& (7 : Int32)).toInt64), .second, .val (.long (own_v0_2 p0_0 p0_1 p0_2)), .second, .val (.ref bn0_12), .unset, .unset, .unset, .unset, .unset, .unset] [(.double (FP.l2d (((8 : Int64) * p0_0.toInt64) + (p0_2 &&& (7 : Int32)).toInt64)))])) rfl (hb hby at_134) _ ?_
        show Steps p.tables e below (Tk0_14.setTop (mkF m 137 #[.val (.int p0_0), .val (.int p0_1), .val (.int p0_2), .val (.int p0_3), .val (.long q0_4), .second, .val (.long q0_5), .second, .val (.int (p0_3 &&& (3 : Int32))), .val (.long (own_v0_1 p0_1)), .second, .val (.long (p0_2 &&& (7 : Int32)).toInt64), .second, .val (.long (own_v0_2 p0_0 p0_1 p0_2)), .second, .val (.ref bn0_12), .unset, .unset, .unset, .unset, .unset, .unset] [(.double (4620693217682128896 : UInt64)), (.double (FP.l2d (((8 : Int64) * p0_0.toInt64) + (p0_2 &&& (7 : Int32)).toInt64)))])) _
        refine XS.ddivS Xk0_14.here hx rfl (hb hby at_137) rfl nn137 rfl ?_
        show Steps p.tables e below (Tk0_14.setTop (mkF m 138 #[.val (.int p0_0), .val (.int p0_1), .val (.int p0_2), .val (.int p0_3), .val (.long q0_4), .second, .val (.long q0_5), .second, .val (.int (p0_3 &&& (3 : Int32))), .val (.long (own_v0_1 p0_1)), .second, .val (.long (p0_2 &&& (7 : Int32)).toInt64), .second, .val (.long (own_v0_2 p0_0 p0_1 p0_2)), .second, .val (.ref bn0_12), .unset, .unset, .unset, .unset, .unset, .unset] [(.double (FP.ddiv (FP.l2d (((8 : Int64) * p0_0.toInt64) + (p0_2 &&& (7 : Int32)).toInt64)) (4620693217682128896 : UInt64)))])) _
        refine XS.dstore Xk0_14.here hx rfl (hb hby at_138) rfl (l' := #[.val (.int p0_0), .val (.int p0_1), .val (.int p0_2), .val (.int p0_3), .val (.long q0_4), .second, .val (.long q0_5), .second, .val (.int (p0_3 &&& (3 : Int32))), .val (.long (own_v0_1 p0_1)), .second, .val (.long (p0_2 &&& (7 : Int32)).toInt64), .second, .val (.long (own_v0_2 p0_0 p0_1 p0_2)), .second, .val (.ref bn0_12), .val (.double (own_v0_3 p0_0 p0_2)), .second, .unset, .unset, .unset, .unset]) rfl ?_
        show Steps p.tables e below (Tk0_14.setTop (mkF m 140 #[.val (.int p0_0), .val (.int p0_1), .val (.int p0_2), .val (.int p0_3), .val (.long q0_4), .second, .val (.long q0_5), .second, .val (.int (p0_3 &&& (3 : Int32))), .val (.long (own_v0_1 p0_1)), .second, .val (.long (p0_2 &&& (7 : Int32)).toInt64), .second, .val (.long (own_v0_2 p0_0 p0_1 p0_2)), .second, .val (.ref bn0_12), .val (.double (own_v0_3 p0_0 p0_2)), .second, .unset, .unset, .unset, .unset] [])) _
        refine XS.aload Xk0_14.here hx rfl (hb hby at_140) rfl rfl ?_
        show Steps p.tables e below (Tk0_14.setTop (mkF m 142 #[.val (.int p0_0), .val (.int p0_1), .val (.int p0_2), .val (.int p0_3), .val (.long q0_4), .second, .val (.long q0_5), .second, .val (.int (p0_3 &&& (3 : Int32))), .val (.long (own_v0_1 p0_1)), .second, .val (.long (p0_2 &&& (7 : Int32)).toInt64), .second, .val (.long (own_v0_2 p0_0 p0_1 p0_2)), .second, .val (.ref bn0_12), .val (.double (own_v0_3 p0_0 p0_2)), .second, .unset, .unset, .unset, .unset] [(.ref bn0_12)])) _
        refine stk0_16.trans ?_
        show Steps p.tables e below (Tk0_16.setTop (mkF m 145 #[.val (.int p0_0), .val (.int p0_1), .val (.int p0_2), .val (.int p0_3), .val (.long q0_4), .second, .val (.long q0_5), .second, .val (.int (p0_3 &&& (3 : Int32))), .val (.long (own_v0_1 p0_1)), .second, .val (.long (p0_2 &&& (7 : Int32)).toInt64), .second, .val (.long (own_v0_2 p0_0 p0_1 p0_2)), .second, .val (.ref bn0_12), .val (.double (own_v0_3 p0_0 p0_2)), .second, .unset, .unset, .unset, .unset] [(.double (own_r3_2 (own_v0_1 p0_1) (own_v0_2 p0_0 p0_1 p0_2)))])) _
        refine XS.dload Xk0_16.here hx rfl (hb hby at_145) rfl ?_
        show Steps p.tables e below (Tk0_16.setTop (mkF m 147 #[.val (.int p0_0), .val (.int p0_1), .val (.int p0_2), .val (.int p0_3), .val (.long q0_4), .second, .val (.long q0_5), .second, .val (.int (p0_3 &&& (3 : Int32))), .val (.long (own_v0_1 p0_1)), .second, .val (.long (p0_2 &&& (7 : Int32)).toInt64), .second, .val (.long (own_v0_2 p0_0 p0_1 p0_2)), .second, .val (.ref bn0_12), .val (.double (own_v0_3 p0_0 p0_2)), .second, .unset, .unset, .unset, .unset] [(.double (own_v0_3 p0_0 p0_2)), (.double (own_r3_2 (own_v0_1 p0_1) (own_v0_2 p0_0 p0_1 p0_2)))])) _
        refine XS.dcmpS Xk0_16.here hx rfl (hb hby at_147) rfl rfl ?_
        show Steps p.tables e below (Tk0_16.setTop (mkF m 148 #[.val (.int p0_0), .val (.int p0_1), .val (.int p0_2), .val (.int p0_3), .val (.long q0_4), .second, .val (.long q0_5), .second, .val (.int (p0_3 &&& (3 : Int32))), .val (.long (own_v0_1 p0_1)), .second, .val (.long (p0_2 &&& (7 : Int32)).toInt64), .second, .val (.long (own_v0_2 p0_0 p0_1 p0_2)), .second, .val (.ref bn0_12), .val (.double (own_v0_3 p0_0 p0_2)), .second, .unset, .unset, .unset, .unset] [(.int (cmpValue (FP.dcmp (own_r3_2 (own_v0_1 p0_1) (own_v0_2 p0_0 p0_1 p0_2)) (own_v0_3 p0_0 p0_2)) .l))])) _
        refine XS.ifNo Xk0_16.here hx rfl (hb hby at_148) rfl (XT.i0_ne_f hc148) ?_
        show Steps p.tables e below (Tk0_16.setTop (mkF m 151 #[.val (.int p0_0), .val (.int p0_1), .val (.int p0_2), .val (.int p0_3), .val (.long q0_4), .second, .val (.long q0_5), .second, .val (.int (p0_3 &&& (3 : Int32))), .val (.long (own_v0_1 p0_1)), .second, .val (.long (p0_2 &&& (7 : Int32)).toInt64), .second, .val (.long (own_v0_2 p0_0 p0_1 p0_2)), .second, .val (.ref bn0_12), .val (.double (own_v0_3 p0_0 p0_2)), .second, .unset, .unset, .unset, .unset] [])) _
        refine XS.iconst Xk0_16.here hx rfl (hb hby at_151) ?_
        show Steps p.tables e below (Tk0_16.setTop (mkF m 152 #[.val (.int p0_0), .val (.int p0_1), .val (.int p0_2), .val (.int p0_3), .val (.long q0_4), .second, .val (.long q0_5), .second, .val (.int (p0_3 &&& (3 : Int32))), .val (.long (own_v0_1 p0_1)), .second, .val (.long (p0_2 &&& (7 : Int32)).toInt64), .second, .val (.long (own_v0_2 p0_0 p0_1 p0_2)), .second, .val (.ref bn0_12), .val (.double (own_v0_3 p0_0 p0_2)), .second, .unset, .unset, .unset, .unset] [(.int (1 : Int32))])) _
        refine XS.goto Xk0_16.here hx rfl (pc0 := 152) (pc' := 156) rfl (hb hby at_152) (by decide) (by decide) ?_
        show Steps p.tables e below (Tk0_16.setTop (mkF m 156 #[.val (.int p0_0), .val (.int p0_1), .val (.int p0_2), .val (.int p0_3), .val (.long q0_4), .second, .val (.long q0_5), .second, .val (.int (p0_3 &&& (3 : Int32))), .val (.long (own_v0_1 p0_1)), .second, .val (.long (p0_2 &&& (7 : Int32)).toInt64), .second, .val (.long (own_v0_2 p0_0 p0_1 p0_2)), .second, .val (.ref bn0_12), .val (.double (own_v0_3 p0_0 p0_2)), .second, .unset, .unset, .unset, .unset] [(.int (1 : Int32))])) _
        exact retN Xk0_16 hx (t := .boolean) Bd.returns (by simp) (hb hby at_156) hr
      · show own_Q0 Z p0_0 p0_1 p0_2 p0_3 q0_4 q0_5 h0 n0 _ Tk0_16.heap _
        rw [ek0_16]
        exact ⟨rfl, Nk0_16⟩
    · have K0_17 : ∀ t, Steps p.tables e below (s₁.setTop (mkF m 157 #[.val (.int p0_0), .val (.int p0_1), .val (.int p0_2), .val (.int p0_3), .val (.long q0_4), .second, .val (.long q0_5), .second, .val (.int (p0_3 &&& (3 : Int32))), .val (.long (own_v0_1 p0_1)), .second, .unset, .unset, .unset, .unset, .unset, .unset, .unset, .unset, .unset, .unset, .unset] [])) t → Steps p.tables e below (s₁.setTop (mkF m 76 #[.val (.int p0_0), .val (.int p0_1), .val (.int p0_2), .val (.int p0_3), .val (.long q0_4), .second, .val (.long q0_5), .second, .val (.int (p0_3 &&& (3 : Int32))), .val (.long (own_v0_1 p0_1)), .second, .unset, .unset, .unset, .unset, .unset, .unset, .unset, .unset, .unset, .unset, .unset] [(.int (1 : Int32)), (.int (p0_3 &&& (3 : Int32)))])) t := by
        intro t kt
        show Steps p.tables e below (s₁.setTop (mkF m 76 #[.val (.int p0_0), .val (.int p0_1), .val (.int p0_2), .val (.int p0_3), .val (.long q0_4), .second, .val (.long q0_5), .second, .val (.int (p0_3 &&& (3 : Int32))), .val (.long (own_v0_1 p0_1)), .second, .unset, .unset, .unset, .unset, .unset, .unset, .unset, .unset, .unset, .unset, .unset] [(.int (1 : Int32)), (.int (p0_3 &&& (3 : Int32)))])) _
        refine XS.icmpYes X0.here hx rfl (pc0 := 76) (pc' := 157) rfl (hb hby at_76) rfl (XT.ii_ne_t hs0_10) (by decide) (by decide) ?_
        exact kt
      obtain ⟨Tn0_18, hn0_18, Xn0_18, en0_18, En0_18, An0_18, Dn0_18, -, stn0_18⟩ := newO X0 hx hZ hown (hw _ (List.mem_of_getElem? (i := 2) rfl)) (hw _ (List.mem_of_getElem? (i := 3) rfl)) (hw _ (List.mem_of_getElem? (i := 4) rfl)) e0 (g := (mkF m 186 #[.val (.int p0_0), .val (.int p0_1), .val (.int p0_2), .val (.int p0_3), .val (.long q0_4), .second, .val (.long q0_5), .second, .val (.int (p0_3 &&& (3 : Int32))), .val (.long (own_v0_1 p0_1)), .second, .val (.long (own_v0_4 p0_1 q0_5)), .second, .val (.long (own_v0_5 p0_0 p0_1 q0_5)), .second, .unset, .unset, .unset, .unset, .unset, .unset, .unset] [])) rfl (hb hby at_186) (by decide) (by decide)
      obtain ⟨bn0_18, gn0_18⟩ : ∃ z, z = h0.size := ⟨_, rfl⟩
      rw [← gn0_18] at An0_18 Dn0_18 stn0_18
      have g_bn0_18 : n0 ≤ bn0_18 := Nat.le_trans Z0 (Nat.le_of_eq gn0_18.symm)
      have sz_bn0_18 : h0.size ≤ bn0_18 := Nat.le_trans Zr (Nat.le_of_eq gn0_18.symm)
      have sz0_19 : h0.size ≤ hn0_18.size := Nat.le_trans Zr En0_18.1
      have F_inUse_bn0_18 : Fld Z hn0_18 bn0_18 "com/example/ostia/ostia/PoolStatus" "inUse" "I" (.int (0 : Int32)) := Dn0_18 (Or.inr (hw _ (List.mem_of_getElem? (i := 12) rfl))) (ty := .int) (by decide)
      have F_idle_bn0_18 : Fld Z hn0_18 bn0_18 "com/example/ostia/ostia/PoolStatus" "idle" "I" (.int (0 : Int32)) := Dn0_18 (Or.inr (hw _ (List.mem_of_getElem? (i := 14) rfl))) (ty := .int) (by decide)
      have F_waiting_bn0_18 : Fld Z hn0_18 bn0_18 "com/example/ostia/ostia/PoolStatus" "waiting" "I" (.int (0 : Int32)) := Dn0_18 (Or.inr (hw _ (List.mem_of_getElem? (i := 16) rfl))) (ty := .int) (by decide)
      have F_opened_bn0_18 : Fld Z hn0_18 bn0_18 "com/example/ostia/ostia/PoolStatus" "opened" "J" (.long (0 : Int64)) := Dn0_18 (Or.inr (hw _ (List.mem_of_getElem? (i := 18) rfl))) (ty := .long) (by decide)
      have F_closed_bn0_18 : Fld Z hn0_18 bn0_18 "com/example/ostia/ostia/PoolStatus" "closed" "J" (.long (0 : Int64)) := Dn0_18 (Or.inr (hw _ (List.mem_of_getElem? (i := 20) rfl))) (ty := .long) (by decide)
      have F_calls_bn0_18 : Fld Z hn0_18 bn0_18 "com/example/ostia/ostia/PoolStatus" "calls" "J" (.long (0 : Int64)) := Dn0_18 (Or.inr (hw _ (List.mem_of_getElem? (i := 22) rfl))) (ty := .long) (by decide)
      have F_timeouts_bn0_18 : Fld Z hn0_18 bn0_18 "com/example/ostia/ostia/PoolStatus" "timeouts" "J" (.long (0 : Int64)) := Dn0_18 (Or.inr (hw _ (List.mem_of_getElem? (i := 24) rfl))) (ty := .long) (by decide)
      have F_totalWaitMicros_bn0_18 : Fld Z hn0_18 bn0_18 "com/example/ostia/ostia/PoolStatus" "totalWaitMicros" "J" (.long (0 : Int64)) := Dn0_18 (Or.inr (hw _ (List.mem_of_getElem? (i := 26) rfl))) (ty := .long) (by decide)
      have F_longestWaitNanos_bn0_18 : Fld Z hn0_18 bn0_18 "com/example/ostia/ostia/PoolStatus" "longestWaitNanos" "J" (.long (0 : Int64)) := Dn0_18 (Or.inr (hw _ (List.mem_of_getElem? (i := 28) rfl))) (ty := .long) (by decide)
      obtain ⟨_, _, ⟨Tk0_20, Lk0_20, kk0_20, nk0_20⟩, -, Xk0_20, ⟨Lck0_20, hQk0_20, lk0_20, yk0_20, zk0_20⟩, stk0_20⟩ := Xn0_18.specialBack hx (y := (⟨"com/example/ostia/ostia/PoolStatus", "<init>", "(IIIJJJJJJ)V"⟩ : MethodName)) rfl hown (mvT hZ (hw _ (List.mem_of_getElem? (i := 5) rfl))) (mvT hZ (hw _ (List.mem_of_getElem? (i := 6) rfl))) (mvT hZ (hw _ (List.mem_of_getElem? (i := 7) rfl))) (by decide) (backOf (W := 1) (own_rm1 l Z a0 hw [] bn0_18 (0 : Int32) (0 : Int32) (0 : Int32) (0 : Int64) (0 : Int64) (own_v0_1 p0_1) (0 : Int64) (own_v0_5 p0_0 p0_1 q0_5) (0 : Int64) (.int (0 : Int32)) (.int (0 : Int32)) (.int (0 : Int32)) (.long (0 : Int64)) (.long (0 : Int64)) (.long (0 : Int64)) (.long (0 : Int64)) (.long (0 : Int64)) (.long (0 : Int64)) hn0_18 n0 (Nat.le_trans Z0 sz0_19) An0_18 F_inUse_bn0_18 g_bn0_18 F_idle_bn0_18 F_waiting_bn0_18 F_opened_bn0_18 F_closed_bn0_18 F_calls_bn0_18 F_timeouts_bn0_18 F_totalWaitMicros_bn0_18 F_longestWaitNanos_bn0_18) hZ (hw _ (List.mem_of_getElem? (i := 7) rfl)) (hw _ (List.mem_of_getElem? (i := 4) rfl)) (by decide) (by decide)) (g := (mkF m 201 #[.val (.int p0_0), .val (.int p0_1), .val (.int p0_2), .val (.int p0_3), .val (.long q0_4), .second, .val (.long q0_5), .second, .val (.int (p0_3 &&& (3 : Int32))), .val (.long (own_v0_1 p0_1)), .second, .val (.long (own_v0_4 p0_1 q0_5)), .second, .val (.long (own_v0_5 p0_0 p0_1 q0_5)), .second, .unset, .unset, .unset, .unset, .unset, .unset, .unset] [(.long (0 : Int64)), (.long (own_v0_5 p0_0 p0_1 q0_5)), (.long (0 : Int64)), (.long (own_v0_1 p0_1)), (.long (0 : Int64)), (.long (0 : Int64)), (.int (0 : Int32)), (.int (0 : Int32)), (.int (0 : Int32)), (.ref bn0_18), (.ref bn0_18)])) rfl (by rw [hml]; rfl) (Steps.refl _) (a := bn0_18) (argsL := [(.int (0 : Int32)), (.int (0 : Int32)), (.int (0 : Int32)), (.long (0 : Int64)), (.long (0 : Int64)), (.long (own_v0_1 p0_1)), (.long (0 : Int64)), (.long (own_v0_5 p0_0 p0_1 q0_5)), (.long (0 : Int64))]) (rest := [(.ref bn0_18)]) (lenOf own_pd0 rfl) rfl (by show 2 * 0 + _ ≤ _; exact Nat.le_of_eq rfl) (hb hby at_201) (fun _ _ => ⟨rfl, en0_18, (by decide : 1 + 0 ≤ _), (by decide : 9 + 0 ≤ _)⟩)
      dsimp only [Pt.U, Pt.locs, Pt.cells, Pt.slots] at Xk0_20 lk0_20 yk0_20 zk0_20 stk0_20 hQk0_20
      subst lk0_20 yk0_20 zk0_20
      obtain ⟨rfl, Nk0_20q, Kk0_20, Qk0_20_0, Qk0_20_1, Qk0_20_2, Qk0_20_3, Qk0_20_4, Qk0_20_5, Qk0_20_6, Qk0_20_7, Qk0_20_8, Qk0_20_9⟩ := hQk0_20
      have sz0_21 : h0.size ≤ Tk0_20.heap.size := Nat.le_trans sz0_19 Kk0_20.1
      have Nk0_20 := Fr.app N0 Nk0_20q
      obtain ⟨cqk0_22, kqk0_22, qk0_22a, qk0_22b, qk0_22c⟩ := isOf hZ rfl Qk0_20_0
      obtain ⟨_, _, ⟨Tk0_22, Lk0_22, kk0_22, nk0_22⟩, -, Xk0_22, ⟨Lck0_22, hQk0_22, lk0_22, yk0_22, zk0_22⟩, stk0_22⟩ := Xk0_20.virtualBack hx (y := (⟨"com/example/ostia/ostia/PoolStatus", "averageWaitMillis", "()D"⟩ : MethodName)) (z := (⟨"com/example/ostia/ostia/PoolStatus", "averageWaitMillis", "()D"⟩ : MethodName)) hown (mvT hZ (hw _ (List.mem_of_getElem? (i := 31) rfl))) (mvT hZ (hw _ (List.mem_of_getElem? (i := 32) rfl))) (notFace_of_selects (args := #[]) (mvT hZ (hw _ (List.mem_of_getElem? (i := 34) rfl)))) (mvT hZ (hw _ (List.mem_of_getElem? (i := 34) rfl))) (mvT hZ (hw _ (List.mem_of_getElem? (i := 33) rfl))) (by decide) (backOf (W := 0) (own_rm3 l Z a0 hw [] bn0_18 (own_v0_1 p0_1) (own_v0_5 p0_0 p0_1 q0_5) Tk0_20.heap n0 (Nat.le_trans Z0 sz0_21) Qk0_20_6 Qk0_20_8 c208_nn19 c208_nn25) hZ (hw _ (List.mem_of_getElem? (i := 35) rfl)) (hw _ (List.mem_of_getElem? (i := 4) rfl)) (by decide) (by decide)) qk0_22a qk0_22c (g := (mkF m 208 #[.val (.int p0_0), .val (.int p0_1), .val (.int p0_2), .val (.int p0_3), .val (.long q0_4), .second, .val (.long q0_5), .second, .val (.int (p0_3 &&& (3 : Int32))), .val (.long (own_v0_1 p0_1)), .second, .val (.long (own_v0_4 p0_1 q0_5)), .second, .val (.long (own_v0_5 p0_0 p0_1 q0_5)), .second, .val (.ref bn0_18), .unset, .unset, .unset, .unset, .unset, .unset] [(.ref bn0_18)])) rfl (by rw [hml]; rfl) (Steps.refl _) (argsL := []) (rest := []) (lenOf own_pd1 rfl) rfl (by show 2 * 0 + _ ≤ _; exact Nat.le_of_eq rfl) (hb hby at_208) (fun _ _ => ⟨rfl, rfl, (by decide : 1 + 0 ≤ _), (by decide : 9 + 0 ≤ _)⟩)
      dsimp only [Pt.U, Pt.locs, Pt.cells, Pt.slots] at Xk0_22 lk0_22 yk0_22 zk0_22 stk0_22 hQk0_22
      subst lk0_22 yk0_22 zk0_22
      obtain ⟨rfl, Nk0_22q, ek0_22⟩ := hQk0_22
      have Nk0_22 := Fr.app Nk0_20 Nk0_22q
      obtain ⟨fs, hr, hrun, hended, hW, hsame⟩ := Xk0_22.leave (v := some (.int (1 : Int32))) (fun h => by rw [Bd.returns] at h; cases h)
      refine ⟨_, _, pre0 _ (Ks0_1 _ (K0_9 _ (Ks0_10 _ (K0_17 _ (?_))))), hrun, hended, _, _, rfl, ?_, ⟨_, rfl⟩, hW, hsame.mono (by decide) (by decide)⟩
      · show Steps p.tables e below (s₁.setTop (mkF m 157 #[.val (.int p0_0), .val (.int p0_1), .val (.int p0_2), .val (.int p0_3), .val (.long q0_4), .second, .val (.long q0_5), .second, .val (.int (p0_3 &&& (3 : Int32))), .val (.long (own_v0_1 p0_1)), .second, .unset, .unset, .unset, .unset, .unset, .unset, .unset, .unset, .unset, .unset, .unset] [])) _
        refine XT.lload X0.here hx rfl (hb hby at_157) rfl ?_
        show Steps p.tables e below (s₁.setTop (mkF m 159 #[.val (.int p0_0), .val (.int p0_1), .val (.int p0_2), .val (.int p0_3), .val (.long q0_4), .second, .val (.long q0_5), .second, .val (.int (p0_3 &&& (3 : Int32))), .val (.long (own_v0_1 p0_1)), .second, .unset, .unset, .unset, .unset, .unset, .unset, .unset, .unset, .unset, .unset, .unset] [(.long q0_5)])) _
        refine X0.ldc2Long hx hown (mvT hZ (hw _ (List.mem_of_getElem? (i := 37) rfl))) (g := (mkF m 159 #[.val (.int p0_0), .val (.int p0_1), .val (.int p0_2), .val (.int p0_3), .val (.long q0_4), .second, .val (.long q0_5), .second, .val (.int (p0_3 &&& (3 : Int32))), .val (.long (own_v0_1 p0_1)), .second, .unset, .unset, .unset, .unset, .unset, .unset, .unset, .unset, .unset, .unset, .unset] [(.long q0_5)])) rfl (hb hby at_159) _ ?_
        show Steps p.tables e below (s₁.setTop (mkF m 162 #[.val (.int p0_0), .val (.int p0_1), .val (.int p0_2), .val (.int p0_3), .val (.long q0_4), .second, .val (.long q0_5), .second, .val (.int (p0_3 &&& (3 : Int32))), .val (.long (own_v0_1 p0_1)), .second, .unset, .unset, .unset, .unset, .unset, .unset, .unset, .unset, .unset, .unset, .unset] [(.long (9223372036854775807 : Int64)), (.long q0_5)])) _
        refine XT.land X0.here hx rfl (hb hby at_162) rfl ?_
        show Steps p.tables e below (s₁.setTop (mkF m 163 #[.val (.int p0_0), .val (.int p0_1), .val (.int p0_2), .val (.int p0_3), .val (.long q0_4), .second, .val (.long q0_5), .second, .val (.int (p0_3 &&& (3 : Int32))), .val (.long (own_v0_1 p0_1)), .second, .unset, .unset, .unset, .unset, .unset, .unset, .unset, .unset, .unset, .unset, .unset] [(.long (q0_5 &&& (9223372036854775807 : Int64)))])) _
        refine X0.ldc2Long hx hown (mvT hZ (hw _ (List.mem_of_getElem? (i := 0) rfl))) (g := (mkF m 163 #[.val (.int p0_0), .val (.int p0_1), .val (.int p0_2), .val (.int p0_3), .val (.long q0_4), .second, .val (.long q0_5), .second, .val (.int (p0_3 &&& (3 : Int32))), .val (.long (own_v0_1 p0_1)), .second, .unset, .unset, .unset, .unset, .unset, .unset, .unset, .unset, .unset, .unset, .unset] [(.long (q0_5 &&& (9223372036854775807 : Int64)))])) rfl (hb hby at_163) _ ?_
        show Steps p.tables e below (s₁.setTop (mkF m 166 #[.val (.int p0_0), .val (.int p0_1), .val (.int p0_2), .val (.int p0_3), .val (.long q0_4), .second, .val (.long q0_5), .second, .val (.int (p0_3 &&& (3 : Int32))), .val (.long (own_v0_1 p0_1)), .second, .unset, .unset, .unset, .unset, .unset, .unset, .unset, .unset, .unset, .unset, .unset] [(.long (1000 : Int64)), (.long (q0_5 &&& (9223372036854775807 : Int64)))])) _
        refine XT.lload X0.here hx rfl (hb hby at_166) rfl ?_
        show Steps p.tables e below (s₁.setTop (mkF m 168 #[.val (.int p0_0), .val (.int p0_1), .val (.int p0_2), .val (.int p0_3), .val (.long q0_4), .second, .val (.long q0_5), .second, .val (.int (p0_3 &&& (3 : Int32))), .val (.long (own_v0_1 p0_1)), .second, .unset, .unset, .unset, .unset, .unset, .unset, .unset, .unset, .unset, .unset, .unset] [(.long (own_v0_1 p0_1)), (.long (1000 : Int64)), (.long (q0_5 &&& (9223372036854775807 : Int64)))])) _
        refine XT.lmul X0.here hx rfl (hb hby at_168) rfl ?_
        show Steps p.tables e below (s₁.setTop (mkF m 169 #[.val (.int p0_0), .val (.int p0_1), .val (.int p0_2), .val (.int p0_3), .val (.long q0_4), .second, .val (.long q0_5), .second, .val (.int (p0_3 &&& (3 : Int32))), .val (.long (own_v0_1 p0_1)), .second, .unset, .unset, .unset, .unset, .unset, .unset, .unset, .unset, .unset, .unset, .unset] [(.long ((1000 : Int64) * (own_v0_1 p0_1))), (.long (q0_5 &&& (9223372036854775807 : Int64)))])) _
        refine XT.lrem X0.here hx rfl (hb hby at_169) rfl hz169 ?_
        show Steps p.tables e below (s₁.setTop (mkF m 170 #[.val (.int p0_0), .val (.int p0_1), .val (.int p0_2), .val (.int p0_3), .val (.long q0_4), .second, .val (.long q0_5), .second, .val (.int (p0_3 &&& (3 : Int32))), .val (.long (own_v0_1 p0_1)), .second, .unset, .unset, .unset, .unset, .unset, .unset, .unset, .unset, .unset, .unset, .unset] [(.long ((q0_5 &&& (9223372036854775807 : Int64)) - ((q0_5 &&& (9223372036854775807 : Int64)) / ((1000 : Int64) * (own_v0_1 p0_1))) * ((1000 : Int64) * (own_v0_1 p0_1))))])) _
        refine XT.lstore X0.here hx rfl (hb hby at_170) rfl (l' := #[.val (.int p0_0), .val (.int p0_1), .val (.int p0_2), .val (.int p0_3), .val (.long q0_4), .second, .val (.long q0_5), .second, .val (.int (p0_3 &&& (3 : Int32))), .val (.long (own_v0_1 p0_1)), .second, .val (.long (own_v0_4 p0_1 q0_5)), .second, .unset, .unset, .unset, .unset, .unset, .unset, .unset, .unset, .unset]) rfl ?_
        show Steps p.tables e below (s₁.setTop (mkF m 172 #[.val (.int p0_0), .val (.int p0_1), .val (.int p0_2), .val (.int p0_3), .val (.long q0_4), .second, .val (.long q0_5), .second, .val (.int (p0_3 &&& (3 : Int32))), .val (.long (own_v0_1 p0_1)), .second, .val (.long (own_v0_4 p0_1 q0_5)), .second, .unset, .unset, .unset, .unset, .unset, .unset, .unset, .unset, .unset] [])) _
        refine X0.ldc2Long hx hown (mvT hZ (hw _ (List.mem_of_getElem? (i := 0) rfl))) (g := (mkF m 172 #[.val (.int p0_0), .val (.int p0_1), .val (.int p0_2), .val (.int p0_3), .val (.long q0_4), .second, .val (.long q0_5), .second, .val (.int (p0_3 &&& (3 : Int32))), .val (.long (own_v0_1 p0_1)), .second, .val (.long (own_v0_4 p0_1 q0_5)), .second, .unset, .unset, .unset, .unset, .unset, .unset, .unset, .unset, .unset] [])) rfl (hb hby at_172) _ ?_
        show Steps p.tables e below (s₁.setTop (mkF m 175 #[.val (.int p0_0), .val (.int p0_1), .val (.int p0_2), .val (.int p0_3), .val (.long q0_4), .second, .val (.long q0_5), .second, .val (.int (p0_3 &&& (3 : Int32))), .val (.long (own_v0_1 p0_1)), .second, .val (.long (own_v0_4 p0_1 q0_5)), .second, .unset, .unset, .unset, .unset, .unset, .unset, .unset, .unset, .unset] [(.long (1000 : Int64))])) _
        refine XT.lload X0.here hx rfl (hb hby at_175) rfl ?_
        show Steps p.tables e below (s₁.setTop (mkF m 177 #[.val (.int p0_0), .val (.int p0_1), .val (.int p0_2), .val (.int p0_3), .val (.long q0_4), .second, .val (.long q0_5), .second, .val (.int (p0_3 &&& (3 : Int32))), .val (.long (own_v0_1 p0_1)), .second, .val (.long (own_v0_4 p0_1 q0_5)), .second, .unset, .unset, .unset, .unset, .unset, .unset, .unset, .unset, .unset] [(.long (own_v0_1 p0_1)), (.long (1000 : Int64))])) _
        refine XT.lmul X0.here hx rfl (hb hby at_177) rfl ?_
        show Steps p.tables e below (s₁.setTop (mkF m 178 #[.val (.int p0_0), .val (.int p0_1), .val (.int p0_2), .val (.int p0_3), .val (.long q0_4), .second, .val (.long q0_5), .second, .val (.int (p0_3 &&& (3 : Int32))), .val (.long (own_v0_1 p0_1)), .second, .val (.long (own_v0_4 p0_1 q0_5)), .second, .unset, .unset, .unset, .unset, .unset, .unset, .unset, .unset, .unset] [(.long ((1000 : Int64) * (own_v0_1 p0_1)))])) _
        refine XS.iloadN X0.here hx rfl (hb hby at_178) rfl ?_
        show Steps p.tables e below (s₁.setTop (mkF m 179 #[.val (.int p0_0), .val (.int p0_1), .val (.int p0_2), .val (.int p0_3), .val (.long q0_4), .second, .val (.long q0_5), .second, .val (.int (p0_3 &&& (3 : Int32))), .val (.long (own_v0_1 p0_1)), .second, .val (.long (own_v0_4 p0_1 q0_5)), .second, .unset, .unset, .unset, .unset, .unset, .unset, .unset, .unset, .unset] [(.int p0_0), (.long ((1000 : Int64) * (own_v0_1 p0_1)))])) _
        refine XT.i2l X0.here hx rfl (hb hby at_179) rfl ?_
        show Steps p.tables e below (s₁.setTop (mkF m 180 #[.val (.int p0_0), .val (.int p0_1), .val (.int p0_2), .val (.int p0_3), .val (.long q0_4), .second, .val (.long q0_5), .second, .val (.int (p0_3 &&& (3 : Int32))), .val (.long (own_v0_1 p0_1)), .second, .val (.long (own_v0_4 p0_1 q0_5)), .second, .unset, .unset, .unset, .unset, .unset, .unset, .unset, .unset, .unset] [(.long p0_0.toInt64), (.long ((1000 : Int64) * (own_v0_1 p0_1)))])) _
        refine XT.lmul X0.here hx rfl (hb hby at_180) rfl ?_
        show Steps p.tables e below (s₁.setTop (mkF m 181 #[.val (.int p0_0), .val (.int p0_1), .val (.int p0_2), .val (.int p0_3), .val (.long q0_4), .second, .val (.long q0_5), .second, .val (.int (p0_3 &&& (3 : Int32))), .val (.long (own_v0_1 p0_1)), .second, .val (.long (own_v0_4 p0_1 q0_5)), .second, .unset, .unset, .unset, .unset, .unset, .unset, .unset, .unset, .unset] [(.long (((1000 : Int64) * (own_v0_1 p0_1)) * p0_0.toInt64))])) _
        refine XT.lload X0.here hx rfl (hb hby at_181) rfl ?_
        show Steps p.tables e below (s₁.setTop (mkF m 183 #[.val (.int p0_0), .val (.int p0_1), .val (.int p0_2), .val (.int p0_3), .val (.long q0_4), .second, .val (.long q0_5), .second, .val (.int (p0_3 &&& (3 : Int32))), .val (.long (own_v0_1 p0_1)), .second, .val (.long (own_v0_4 p0_1 q0_5)), .second, .unset, .unset, .unset, .unset, .unset, .unset, .unset, .unset, .unset] [(.long (own_v0_4 p0_1 q0_5)), (.long (((1000 : Int64) * (own_v0_1 p0_1)) * p0_0.toInt64))])) _
        refine XT.ladd X0.here hx rfl (hb hby at_183) rfl ?_
        show Steps p.tables e below (s₁.setTop (mkF m 184 #[.val (.int p0_0), .val (.int p0_1), .val (.int p0_2), .val (.int p0_3), .val (.long q0_4), .second, .val (.long q0_5), .second, .val (.int (p0_3 &&& (3 : Int32))), .val (.long (own_v0_1 p0_1)), .second, .val (.long (own_v0_4 p0_1 q0_5)), .second, .unset, .unset, .unset, .unset, .unset, .unset, .unset, .unset, .unset] [(.long ((((1000 : Int64) * (own_v0_1 p0_1)) * p0_0.toInt64) + (own_v0_4 p0_1 q0_5)))])) _
        refine XT.lstore X0.here hx rfl (hb hby at_184) rfl (l' := #[.val (.int p0_0), .val (.int p0_1), .val (.int p0_2), .val (.int p0_3), .val (.long q0_4), .second, .val (.long q0_5), .second, .val (.int (p0_3 &&& (3 : Int32))), .val (.long (own_v0_1 p0_1)), .second, .val (.long (own_v0_4 p0_1 q0_5)), .second, .val (.long (own_v0_5 p0_0 p0_1 q0_5)), .second, .unset, .unset, .unset, .unset, .unset, .unset, .unset]) rfl ?_
        show Steps p.tables e below (s₁.setTop (mkF m 186 #[.val (.int p0_0), .val (.int p0_1), .val (.int p0_2), .val (.int p0_3), .val (.long q0_4), .second, .val (.long q0_5), .second, .val (.int (p0_3 &&& (3 : Int32))), .val (.long (own_v0_1 p0_1)), .second, .val (.long (own_v0_4 p0_1 q0_5)), .second, .val (.long (own_v0_5 p0_0 p0_1 q0_5)), .second, .unset, .unset, .unset, .unset, .unset, .unset, .unset] [])) _
        refine stn0_18 _ ?_
        show Steps p.tables e below (Tn0_18.setTop (mkF m 189 #[.val (.int p0_0), .val (.int p0_1), .val (.int p0_2), .val (.int p0_3), .val (.long q0_4), .second, .val (.long q0_5), .second, .val (.int (p0_3 &&& (3 : Int32))), .val (.long (own_v0_1 p0_1)), .second, .val (.long (own_v0_4 p0_1 q0_5)), .second, .val (.long (own_v0_5 p0_0 p0_1 q0_5)), .second, .unset, .unset, .unset, .unset, .unset, .unset, .unset] [(.ref bn0_18)])) _
        refine XS.dup Xn0_18.here hx rfl (hb hby at_189) rfl rfl ?_
        show Steps p.tables e below (Tn0_18.setTop (mkF m 190 #[.val (.int p0_0), .val (.int p0_1), .val (.int p0_2), .val (.int p0_3), .val (.long q0_4), .second, .val (.long q0_5), .second, .val (.int (p0_3 &&& (3 : Int32))), .val (.long (own_v0_1 p0_1)), .second, .val (.long (own_v0_4 p0_1 q0_5)), .second, .val (.long (own_v0_5 p0_0 p0_1 q0_5)), .second, .unset, .unset, .unset, .unset, .unset, .unset, .unset] [(.ref bn0_18), (.ref bn0_18)])) _
        refine XS.iconst Xn0_18.here hx rfl (hb hby at_190) ?_
        show Steps p.tables e below (Tn0_18.setTop (mkF m 191 #[.val (.int p0_0), .val (.int p0_1), .val (.int p0_2), .val (.int p0_3), .val (.long q0_4), .second, .val (.long q0_5), .second, .val (.int (p0_3 &&& (3 : Int32))), .val (.long (own_v0_1 p0_1)), .second, .val (.long (own_v0_4 p0_1 q0_5)), .second, .val (.long (own_v0_5 p0_0 p0_1 q0_5)), .second, .unset, .unset, .unset, .unset, .unset, .unset, .unset] [(.int (0 : Int32)), (.ref bn0_18), (.ref bn0_18)])) _
        refine XS.iconst Xn0_18.here hx rfl (hb hby at_191) ?_
        show Steps p.tables e below (Tn0_18.setTop (mkF m 192 #[.val (.int p0_0), .val (.int p0_1), .val (.int p0_2), .val (.int p0_3), .val (.long q0_4), .second, .val (.long q0_5), .second, .val (.int (p0_3 &&& (3 : Int32))), .val (.long (own_v0_1 p0_1)), .second, .val (.long (own_v0_4 p0_1 q0_5)), .second, .val (.long (own_v0_5 p0_0 p0_1 q0_5)), .second, .unset, .unset, .unset, .unset, .unset, .unset, .unset] [(.int (0 : Int32)), (.int (0 : Int32)), (.ref bn0_18), (.ref bn0_18)])) _
        refine XS.iconst Xn0_18.here hx rfl (hb hby at_192) ?_
        show Steps p.tables e below (Tn0_18.setTop (mkF m 193 #[.val (.int p0_0), .val (.int p0_1), .val (.int p0_2), .val (.int p0_3), .val (.long q0_4), .second, .val (.long q0_5), .second, .val (.int (p0_3 &&& (3 : Int32))), .val (.long (own_v0_1 p0_1)), .second, .val (.long (own_v0_4 p0_1 q0_5)), .second, .val (.long (own_v0_5 p0_0 p0_1 q0_5)), .second, .unset, .unset, .unset, .unset, .unset, .unset, .unset] [(.int (0 : Int32)), (.int (0 : Int32)), (.int (0 : Int32)), (.ref bn0_18), (.ref bn0_18)])) _
        refine XT.lconst Xn0_18.here hx rfl (hb hby at_193) ?_
        show Steps p.tables e below (Tn0_18.setTop (mkF m 194 #[.val (.int p0_0), .val (.int p0_1), .val (.int p0_2), .val (.int p0_3), .val (.long q0_4), .second, .val (.long q0_5), .second, .val (.int (p0_3 &&& (3 : Int32))), .val (.long (own_v0_1 p0_1)), .second, .val (.long (own_v0_4 p0_1 q0_5)), .second, .val (.long (own_v0_5 p0_0 p0_1 q0_5)), .second, .unset, .unset, .unset, .unset, .unset, .unset, .unset] [(.long (0 : Int64)), (.int (0 : Int32)), (.int (0 : Int32)), (.int (0 : Int32)), (.ref bn0_18), (.ref bn0_18)])) _
        refine XT.lconst Xn0_18.here hx rfl (hb hby at_194) ?_
        show Steps p.tables e below (Tn0_18.setTop (mkF m 195 #[.val (.int p0_0), .val (.int p0_1), .val (.int p0_2), .val (.int p0_3), .val (.long q0_4), .second, .val (.long q0_5), .second, .val (.int (p0_3 &&& (3 : Int32))), .val (.long (own_v0_1 p0_1)), .second, .val (.long (own_v0_4 p0_1 q0_5)), .second, .val (.long (own_v0_5 p0_0 p0_1 q0_5)), .second, .unset, .unset, .unset, .unset, .unset, .unset, .unset] [(.long (0 : Int64)), (.long (0 : Int64)), (.int (0 : Int32)), (.int (0 : Int32)), (.int (0 : Int32)), (.ref bn0_18), (.ref bn0_18)])) _
        refine XT.lload Xn0_18.here hx rfl (hb hby at_195) rfl ?_
        show Steps p.tables e below (Tn0_18.setTop (mkF m 197 #[.val (.int p0_0), .val (.int p0_1), .val (.int p0_2), .val (.int p0_3), .val (.long q0_4), .second, .val (.long q0_5), .second, .val (.int (p0_3 &&& (3 : Int32))), .val (.long (own_v0_1 p0_1)), .second, .val (.long (own_v0_4 p0_1 q0_5)), .second, .val (.long (own_v0_5 p0_0 p0_1 q0_5)), .second, .unset, .unset, .unset, .unset, .unset, .unset, .unset] [(.long (own_v0_1 p0_1)), (.long (0 : Int64)), (.long (0 : Int64)), (.int (0 : Int32)), (.int (0 : Int32)), (.int (0 : Int32)), (.ref bn0_18), (.ref bn0_18)])) _
        refine XT.lconst Xn0_18.here hx rfl (hb hby at_197) ?_
        show Steps p.tables e below (Tn0_18.setTop (mkF m 198 #[.val (.int p0_0), .val (.int p0_1), .val (.int p0_2), .val (.int p0_3), .val (.long q0_4), .second, .val (.long q0_5), .second, .val (.int (p0_3 &&& (3 : Int32))), .val (.long (own_v0_1 p0_1)), .second, .val (.long (own_v0_4 p0_1 q0_5)), .second, .val (.long (own_v0_5 p0_0 p0_1 q0_5)), .second, .unset, .unset, .unset, .unset, .unset, .unset, .unset] [(.long (0 : Int64)), (.long (own_v0_1 p0_1)), (.long (0 : Int64)), (.long (0 : Int64)), (.int (0 : Int32)), (.int (0 : Int32)), (.int (0 : Int32)), (.ref bn0_18), (.ref bn0_18)])) _
        refine XT.lload Xn0_18.here hx rfl (hb hby at_198) rfl ?_
        show Steps p.tables e below (Tn0_18.setTop (mkF m 200 #[.val (.int p0_0), .val (.int p0_1), .val (.int p0_2), .val (.int p0_3), .val (.long q0_4), .second, .val (.long q0_5), .second, .val (.int (p0_3 &&& (3 : Int32))), .val (.long (own_v0_1 p0_1)), .second, .val (.long (own_v0_4 p0_1 q0_5)), .second, .val (.long (own_v0_5 p0_0 p0_1 q0_5)), .second, .unset, .unset, .unset, .unset, .unset, .unset, .unset] [(.long (own_v0_5 p0_0 p0_1 q0_5)), (.long (0 : Int64)), (.long (own_v0_1 p0_1)), (.long (0 : Int64)), (.long (0 : Int64)), (.int (0 : Int32)), (.int (0 : Int32)), (.int (0 : Int32)), (.ref bn0_18), (.ref bn0_18)])) _
        refine XT.lconst Xn0_18.here hx rfl (hb hby at_200) ?_
        show Steps p.tables e below (Tn0_18.setTop (mkF m 201 #[.val (.int p0_0), .val (.int p0_1), .val (.int p0_2), .val (.int p0_3), .val (.long q0_4), .second, .val (.long q0_5), .second, .val (.int (p0_3 &&& (3 : Int32))), .val (.long (own_v0_1 p0_1)), .second, .val (.long (own_v0_4 p0_1 q0_5)), .second, .val (.long (own_v0_5 p0_0 p0_1 q0_5)), .second, .unset, .unset, .unset, .unset, .unset, .unset, .unset] [(.long (0 : Int64)), (.long (own_v0_5 p0_0 p0_1 q0_5)), (.long (0 : Int64)), (.long (own_v0_1 p0_1)), (.long (0 : Int64)), (.long (0 : Int64)), (.int (0 : Int32)), (.int (0 : Int32)), (.int (0 : Int32)), (.ref bn0_18), (.ref bn0_18)])) _
        refine stk0_20.trans ?_
        show Steps p.tables e below (Tk0_20.setTop (mkF m 204 #[.val (.int p0_0), .val (.int p0_1), .val (.int p0_2), .val (.int p0_3), .val (.long q0_4), .second, .val (.long q0_5), .second, .val (.int (p0_3 &&& (3 : Int32))), .val (.long (own_v0_1 p0_1)), .second, .val (.long (own_v0_4 p0_1 q0_5)), .second, .val (.long (own_v0_5 p0_0 p0_1 q0_5)), .second, .unset, .unset, .unset, .unset, .unset, .unset, .unset] [(.ref bn0_18)])) _
        refine XS.astore Xk0_20.here hx rfl (hb hby at_204) rfl rfl (l' := #[.val (.int p0_0), .val (.int p0_1), .val (.int p0_2), .val (.int p0_3), .val (.long q0_4), .second, .val (.long q0_5), .second, .val (.int (p0_3 &&& (3 : Int32))), .val (.long (own_v0_1 p0_1)), .second, .val (.long (own_v0_4 p0_1 q0_5)), .second, .val (.long (own_v0_5 p0_0 p0_1 q0_5)), .second, .val (.ref bn0_18), .unset, .unset, .unset, .unset, .unset, .unset]) rfl ?_
        show Steps p.tables e below (Tk0_20.setTop (mkF m 206 #[.val (.int p0_0), .val (.int p0_1), .val (.int p0_2), .val (.int p0_3), .val (.long q0_4), .second, .val (.long q0_5), .second, .val (.int (p0_3 &&& (3 : Int32))), .val (.long (own_v0_1 p0_1)), .second, .val (.long (own_v0_4 p0_1 q0_5)), .second, .val (.long (own_v0_5 p0_0 p0_1 q0_5)), .second, .val (.ref bn0_18), .unset, .unset, .unset, .unset, .unset, .unset] [])) _
        refine XS.aload Xk0_20.here hx rfl (hb hby at_206) rfl rfl ?_
        show Steps p.tables e below (Tk0_20.setTop (mkF m 208 #[.val (.int p0_0), .val (.int p0_1), .val (.int p0_2), .val (.int p0_3), .val (.long q0_4), .second, .val (.long q0_5), .second, .val (.int (p0_3 &&& (3 : Int32))), .val (.long (own_v0_1 p0_1)), .second, .val (.long (own_v0_4 p0_1 q0_5)), .second, .val (.long (own_v0_5 p0_0 p0_1 q0_5)), .second, .val (.ref bn0_18), .unset, .unset, .unset, .unset, .unset, .unset] [(.ref bn0_18)])) _
        refine stk0_22.trans ?_
        show Steps p.tables e below (Tk0_22.setTop (mkF m 211 #[.val (.int p0_0), .val (.int p0_1), .val (.int p0_2), .val (.int p0_3), .val (.long q0_4), .second, .val (.long q0_5), .second, .val (.int (p0_3 &&& (3 : Int32))), .val (.long (own_v0_1 p0_1)), .second, .val (.long (own_v0_4 p0_1 q0_5)), .second, .val (.long (own_v0_5 p0_0 p0_1 q0_5)), .second, .val (.ref bn0_18), .unset, .unset, .unset, .unset, .unset, .unset] [(.double (own_r3_2 (own_v0_1 p0_1) (own_v0_5 p0_0 p0_1 q0_5)))])) _
        refine XS.dstore Xk0_22.here hx rfl (hb hby at_211) rfl (l' := #[.val (.int p0_0), .val (.int p0_1), .val (.int p0_2), .val (.int p0_3), .val (.long q0_4), .second, .val (.long q0_5), .second, .val (.int (p0_3 &&& (3 : Int32))), .val (.long (own_v0_1 p0_1)), .second, .val (.long (own_v0_4 p0_1 q0_5)), .second, .val (.long (own_v0_5 p0_0 p0_1 q0_5)), .second, .val (.ref bn0_18), .val (.double (own_v0_6 p0_0 p0_1 q0_5)), .second, .unset, .unset, .unset, .unset]) rfl ?_
        show Steps p.tables e below (Tk0_22.setTop (mkF m 213 #[.val (.int p0_0), .val (.int p0_1), .val (.int p0_2), .val (.int p0_3), .val (.long q0_4), .second, .val (.long q0_5), .second, .val (.int (p0_3 &&& (3 : Int32))), .val (.long (own_v0_1 p0_1)), .second, .val (.long (own_v0_4 p0_1 q0_5)), .second, .val (.long (own_v0_5 p0_0 p0_1 q0_5)), .second, .val (.ref bn0_18), .val (.double (own_v0_6 p0_0 p0_1 q0_5)), .second, .unset, .unset, .unset, .unset] [])) _
        refine XS.iloadN Xk0_22.here hx rfl (hb hby at_213) rfl ?_
        show Steps p.tables e below (Tk0_22.setTop (mkF m 214 #[.val (.int p0_0), .val (.int p0_1), .val (.int p0_2), .val (.int p0_3), .val (.long q0_4), .second, .val (.long q0_5), .second, .val (.int (p0_3 &&& (3 : Int32))), .val (.long (own_v0_1 p0_1)), .second, .val (.long (own_v0_4 p0_1 q0_5)), .second, .val (.long (own_v0_5 p0_0 p0_1 q0_5)), .second, .val (.ref bn0_18), .val (.double (own_v0_6 p0_0 p0_1 q0_5)), .second, .unset, .unset, .unset, .unset] [(.int p0_0)])) _
        refine XS.i2dS Xk0_22.here hx rfl (hb hby at_214) rfl rfl ?_
        show Steps p.tables e below (Tk0_22.setTop (mkF m 215 #[.val (.int p0_0), .val (.int p0_1), .val (.int p0_2), .val (.int p0_3), .val (.long q0_4), .second, .val (.long q0_5), .second, .val (.int (p0_3 &&& (3 : Int32))), .val (.long (own_v0_1 p0_1)), .second, .val (.long (own_v0_4 p0_1 q0_5)), .second, .val (.long (own_v0_5 p0_0 p0_1 q0_5)), .second, .val (.ref bn0_18), .val (.double (own_v0_6 p0_0 p0_1 q0_5)), .second, .unset, .unset, .unset, .unset] [(.double (FP.i2d p0_0))])) _
        refine XS.dstore Xk0_22.here hx rfl (hb hby at_215) rfl (l' := #[.val (.int p0_0), .val (.int p0_1), .val (.int p0_2), .val (.int p0_3), .val (.long q0_4), .second, .val (.long q0_5), .second, .val (.int (p0_3 &&& (3 : Int32))), .val (.long (own_v0_1 p0_1)), .second, .val (.long (own_v0_4 p0_1 q0_5)), .second, .val (.long (own_v0_5 p0_0 p0_1 q0_5)), .second, .val (.ref bn0_18), .val (.double (own_v0_6 p0_0 p0_1 q0_5)), .second, .val (.double (FP.i2d p0_0)), .second, .unset, .unset]) rfl ?_
        show Steps p.tables e below (Tk0_22.setTop (mkF m 217 #[.val (.int p0_0), .val (.int p0_1), .val (.int p0_2), .val (.int p0_3), .val (.long q0_4), .second, .val (.long q0_5), .second, .val (.int (p0_3 &&& (3 : Int32))), .val (.long (own_v0_1 p0_1)), .second, .val (.long (own_v0_4 p0_1 q0_5)), .second, .val (.long (own_v0_5 p0_0 p0_1 q0_5)), .second, .val (.ref bn0_18), .val (.double (own_v0_6 p0_0 p0_1 q0_5)), .second, .val (.double (FP.i2d p0_0)), .second, .unset, .unset] [])) _
        refine XS.iloadN Xk0_22.here hx rfl (hb hby at_217) rfl ?_
        show Steps p.tables e below (Tk0_22.setTop (mkF m 218 #[.val (.int p0_0), .val (.int p0_1), .val (.int p0_2), .val (.int p0_3), .val (.long q0_4), .second, .val (.long q0_5), .second, .val (.int (p0_3 &&& (3 : Int32))), .val (.long (own_v0_1 p0_1)), .second, .val (.long (own_v0_4 p0_1 q0_5)), .second, .val (.long (own_v0_5 p0_0 p0_1 q0_5)), .second, .val (.ref bn0_18), .val (.double (own_v0_6 p0_0 p0_1 q0_5)), .second, .val (.double (FP.i2d p0_0)), .second, .unset, .unset] [(.int p0_0)])) _
        refine XT.i2l Xk0_22.here hx rfl (hb hby at_218) rfl ?_
        show Steps p.tables e below (Tk0_22.setTop (mkF m 219 #[.val (.int p0_0), .val (.int p0_1), .val (.int p0_2), .val (.int p0_3), .val (.long q0_4), .second, .val (.long q0_5), .second, .val (.int (p0_3 &&& (3 : Int32))), .val (.long (own_v0_1 p0_1)), .second, .val (.long (own_v0_4 p0_1 q0_5)), .second, .val (.long (own_v0_5 p0_0 p0_1 q0_5)), .second, .val (.ref bn0_18), .val (.double (own_v0_6 p0_0 p0_1 q0_5)), .second, .val (.double (FP.i2d p0_0)), .second, .unset, .unset] [(.long p0_0.toInt64)])) _
        refine XT.lconst Xk0_22.here hx rfl (hb hby at_219) ?_
        show Steps p.tables e below (Tk0_22.setTop (mkF m 220 #[.val (.int p0_0), .val (.int p0_1), .val (.int p0_2), .val (.int p0_3), .val (.long q0_4), .second, .val (.long q0_5), .second, .val (.int (p0_3 &&& (3 : Int32))), .val (.long (own_v0_1 p0_1)), .second, .val (.long (own_v0_4 p0_1 q0_5)), .second, .val (.long (own_v0_5 p0_0 p0_1 q0_5)), .second, .val (.ref bn0_18), .val (.double (own_v0_6 p0_0 p0_1 q0_5)), .second, .val (.double (FP.i2d p0_0)), .second, .unset, .unset] [(.long (1 : Int64)), (.long p0_0.toInt64)])) _
        refine XT.ladd Xk0_22.here hx rfl (hb hby at_220) rfl ?_
        show Steps p.tables e below (Tk0_22.setTop (mkF m 221 #[.val (.int p0_0), .val (.int p0_1), .val (.int p0_2), .val (.int p0_3), .val (.long q0_4), .second, .val (.long q0_5), .second, .val (.int (p0_3 &&& (3 : Int32))), .val (.long (own_v0_1 p0_1)), .second, .val (.long (own_v0_4 p0_1 q0_5)), .second, .val (.long (own_v0_5 p0_0 p0_1 q0_5)), .second, .val (.ref bn0_18), .val (.double (own_v0_6 p0_0 p0_1 q0_5)), .second, .val (.double (FP.i2d p0_0)), .second, .unset, .unset] [(.long (p0_0.toInt64 + (1 : Int64)))])) _
        refine XS.l2dS Xk0_22.here hx rfl (hb hby at_221) rfl rfl ?_
        show Steps p.tables e below (Tk0_22.setTop (mkF m 222 #[.val (.int p0_0), .val (.int p0_1), .val (.int p0_2), .val (.int p0_3), .val (.long q0_4), .second, .val (.long q0_5), .second, .val (.int (p0_3 &&& (3 : Int32))), .val (.long (own_v0_1 p0_1)), .second, .val (.long (own_v0_4 p0_1 q0_5)), .second, .val (.long (own_v0_5 p0_0 p0_1 q0_5)), .second, .val (.ref bn0_18), .val (.double (own_v0_6 p0_0 p0_1 q0_5)), .second, .val (.double (FP.i2d p0_0)), .second, .unset, .unset] [(.double (FP.l2d (p0_0.toInt64 + (1 : Int64))))])) _
        refine XS.dstore Xk0_22.here hx rfl (hb hby at_222) rfl (l' := #[.val (.int p0_0), .val (.int p0_1), .val (.int p0_2), .val (.int p0_3), .val (.long q0_4), .second, .val (.long q0_5), .second, .val (.int (p0_3 &&& (3 : Int32))), .val (.long (own_v0_1 p0_1)), .second, .val (.long (own_v0_4 p0_1 q0_5)), .second, .val (.long (own_v0_5 p0_0 p0_1 q0_5)), .second, .val (.ref bn0_18), .val (.double (own_v0_6 p0_0 p0_1 q0_5)), .second, .val (.double (FP.i2d p0_0)), .second, .val (.double (own_v0_7 p0_0)), .second]) rfl ?_
        show Steps p.tables e below (Tk0_22.setTop (mkF m 224 #[.val (.int p0_0), .val (.int p0_1), .val (.int p0_2), .val (.int p0_3), .val (.long q0_4), .second, .val (.long q0_5), .second, .val (.int (p0_3 &&& (3 : Int32))), .val (.long (own_v0_1 p0_1)), .second, .val (.long (own_v0_4 p0_1 q0_5)), .second, .val (.long (own_v0_5 p0_0 p0_1 q0_5)), .second, .val (.ref bn0_18), .val (.double (own_v0_6 p0_0 p0_1 q0_5)), .second, .val (.double (FP.i2d p0_0)), .second, .val (.double (own_v0_7 p0_0)), .second] [])) _
        refine XS.dload Xk0_22.here hx rfl (hb hby at_224) rfl ?_
        show Steps p.tables e below (Tk0_22.setTop (mkF m 226 #[.val (.int p0_0), .val (.int p0_1), .val (.int p0_2), .val (.int p0_3), .val (.long q0_4), .second, .val (.long q0_5), .second, .val (.int (p0_3 &&& (3 : Int32))), .val (.long (own_v0_1 p0_1)), .second, .val (.long (own_v0_4 p0_1 q0_5)), .second, .val (.long (own_v0_5 p0_0 p0_1 q0_5)), .second, .val (.ref bn0_18), .val (.double (own_v0_6 p0_0 p0_1 q0_5)), .second, .val (.double (FP.i2d p0_0)), .second, .val (.double (own_v0_7 p0_0)), .second] [(.double (FP.i2d p0_0))])) _
        refine XS.dload Xk0_22.here hx rfl (hb hby at_226) rfl ?_
        show Steps p.tables e below (Tk0_22.setTop (mkF m 228 #[.val (.int p0_0), .val (.int p0_1), .val (.int p0_2), .val (.int p0_3), .val (.long q0_4), .second, .val (.long q0_5), .second, .val (.int (p0_3 &&& (3 : Int32))), .val (.long (own_v0_1 p0_1)), .second, .val (.long (own_v0_4 p0_1 q0_5)), .second, .val (.long (own_v0_5 p0_0 p0_1 q0_5)), .second, .val (.ref bn0_18), .val (.double (own_v0_6 p0_0 p0_1 q0_5)), .second, .val (.double (FP.i2d p0_0)), .second, .val (.double (own_v0_7 p0_0)), .second] [(.double (own_v0_6 p0_0 p0_1 q0_5)), (.double (FP.i2d p0_0))])) _
        refine XS.dcmpS Xk0_22.here hx rfl (hb hby at_228) rfl rfl ?_
        show Steps p.tables e below (Tk0_22.setTop (mkF m 229 #[.val (.int p0_0), .val (.int p0_1), .val (.int p0_2), .val (.int p0_3), .val (.long q0_4), .second, .val (.long q0_5), .second, .val (.int (p0_3 &&& (3 : Int32))), .val (.long (own_v0_1 p0_1)), .second, .val (.long (own_v0_4 p0_1 q0_5)), .second, .val (.long (own_v0_5 p0_0 p0_1 q0_5)), .second, .val (.ref bn0_18), .val (.double (own_v0_6 p0_0 p0_1 q0_5)), .second, .val (.double (FP.i2d p0_0)), .second, .val (.double (own_v0_7 p0_0)), .second] [(.int (cmpValue (FP.dcmp (FP.i2d p0_0) (own_v0_6 p0_0 p0_1 q0_5)) .g))])) _
        refine XS.ifNo Xk0_22.here hx rfl (hb hby at_229) rfl (XT.i0_gt_f hc229) ?_
        show Steps p.tables e below (Tk0_22.setTop (mkF m 232 #[.val (.int p0_0), .val (.int p0_1), .val (.int p0_2), .val (.int p0_3), .val (.long q0_4), .second, .val (.long q0_5), .second, .val (.int (p0_3 &&& (3 : Int32))), .val (.long (own_v0_1 p0_1)), .second, .val (.long (own_v0_4 p0_1 q0_5)), .second, .val (.long (own_v0_5 p0_0 p0_1 q0_5)), .second, .val (.ref bn0_18), .val (.double (own_v0_6 p0_0 p0_1 q0_5)), .second, .val (.double (FP.i2d p0_0)), .second, .val (.double (own_v0_7 p0_0)), .second] [])) _
        refine XS.dload Xk0_22.here hx rfl (hb hby at_232) rfl ?_
        show Steps p.tables e below (Tk0_22.setTop (mkF m 234 #[.val (.int p0_0), .val (.int p0_1), .val (.int p0_2), .val (.int p0_3), .val (.long q0_4), .second, .val (.long q0_5), .second, .val (.int (p0_3 &&& (3 : Int32))), .val (.long (own_v0_1 p0_1)), .second, .val (.long (own_v0_4 p0_1 q0_5)), .second, .val (.long (own_v0_5 p0_0 p0_1 q0_5)), .second, .val (.ref bn0_18), .val (.double (own_v0_6 p0_0 p0_1 q0_5)), .second, .val (.double (FP.i2d p0_0)), .second, .val (.double (own_v0_7 p0_0)), .second] [(.double (own_v0_6 p0_0 p0_1 q0_5))])) _
        refine XS.dload Xk0_22.here hx rfl (hb hby at_234) rfl ?_
        show Steps p.tables e below (Tk0_22.setTop (mkF m 236 #[.val (.int p0_0), .val (.int p0_1), .val (.int p0_2), .val (.int p0_3), .val (.long q0_4), .second, .val (.long q0_5), .second, .val (.int (p0_3 &&& (3 : Int32))), .val (.long (own_v0_1 p0_1)), .second, .val (.long (own_v0_4 p0_1 q0_5)), .second, .val (.long (own_v0_5 p0_0 p0_1 q0_5)), .second, .val (.ref bn0_18), .val (.double (own_v0_6 p0_0 p0_1 q0_5)), .second, .val (.double (FP.i2d p0_0)), .second, .val (.double (own_v0_7 p0_0)), .second] [(.double (own_v0_7 p0_0)), (.double (own_v0_6 p0_0 p0_1 q0_5))])) _
        refine XS.dcmpS Xk0_22.here hx rfl (hb hby at_236) rfl rfl ?_
        show Steps p.tables e below (Tk0_22.setTop (mkF m 237 #[.val (.int p0_0), .val (.int p0_1), .val (.int p0_2), .val (.int p0_3), .val (.long q0_4), .second, .val (.long q0_5), .second, .val (.int (p0_3 &&& (3 : Int32))), .val (.long (own_v0_1 p0_1)), .second, .val (.long (own_v0_4 p0_1 q0_5)), .second, .val (.long (own_v0_5 p0_0 p0_1 q0_5)), .second, .val (.ref bn0_18), .val (.double (own_v0_6 p0_0 p0_1 q0_5)), .second, .val (.double (FP.i2d p0_0)), .second, .val (.double (own_v0_7 p0_0)), .second] [(.int (cmpValue (FP.dcmp (own_v0_6 p0_0 p0_1 q0_5) (own_v0_7 p0_0)) .g))])) _
        refine XS.ifNo Xk0_22.here hx rfl (hb hby at_237) rfl (XT.i0_gt_f hc237) ?_
        show Steps p.tables e below (Tk0_22.setTop (mkF m 240 #[.val (.int p0_0), .val (.int p0_1), .val (.int p0_2), .val (.int p0_3), .val (.long q0_4), .second, .val (.long q0_5), .second, .val (.int (p0_3 &&& (3 : Int32))), .val (.long (own_v0_1 p0_1)), .second, .val (.long (own_v0_4 p0_1 q0_5)), .second, .val (.long (own_v0_5 p0_0 p0_1 q0_5)), .second, .val (.ref bn0_18), .val (.double (own_v0_6 p0_0 p0_1 q0_5)), .second, .val (.double (FP.i2d p0_0)), .second, .val (.double (own_v0_7 p0_0)), .second] [])) _
        refine XS.iconst Xk0_22.here hx rfl (hb hby at_240) ?_
        show Steps p.tables e below (Tk0_22.setTop (mkF m 241 #[.val (.int p0_0), .val (.int p0_1), .val (.int p0_2), .val (.int p0_3), .val (.long q0_4), .second, .val (.long q0_5), .second, .val (.int (p0_3 &&& (3 : Int32))), .val (.long (own_v0_1 p0_1)), .second, .val (.long (own_v0_4 p0_1 q0_5)), .second, .val (.long (own_v0_5 p0_0 p0_1 q0_5)), .second, .val (.ref bn0_18), .val (.double (own_v0_6 p0_0 p0_1 q0_5)), .second, .val (.double (FP.i2d p0_0)), .second, .val (.double (own_v0_7 p0_0)), .second] [(.int (1 : Int32))])) _
        refine XS.goto Xk0_22.here hx rfl (pc0 := 241) (pc' := 245) rfl (hb hby at_241) (by decide) (by decide) ?_
        show Steps p.tables e below (Tk0_22.setTop (mkF m 245 #[.val (.int p0_0), .val (.int p0_1), .val (.int p0_2), .val (.int p0_3), .val (.long q0_4), .second, .val (.long q0_5), .second, .val (.int (p0_3 &&& (3 : Int32))), .val (.long (own_v0_1 p0_1)), .second, .val (.long (own_v0_4 p0_1 q0_5)), .second, .val (.long (own_v0_5 p0_0 p0_1 q0_5)), .second, .val (.ref bn0_18), .val (.double (own_v0_6 p0_0 p0_1 q0_5)), .second, .val (.double (FP.i2d p0_0)), .second, .val (.double (own_v0_7 p0_0)), .second] [(.int (1 : Int32))])) _
        exact retN Xk0_22 hx (t := .boolean) Bd.returns (by simp) (hb hby at_245) hr
      · show own_Q0 Z p0_0 p0_1 p0_2 p0_3 q0_4 q0_5 h0 n0 _ Tk0_22.heap _
        rw [ek0_22]
        exact ⟨rfl, Nk0_22⟩
theorem own_k1000 : own_is 1000 (4652007308841189376 : UInt64) := ⟨by rw [FP.Core.fin_bits]; decide, by decide +kernel⟩
theorem own_k8 : own_at 8 1074 (4620693217682128896 : UInt64) := ⟨by rw [FP.Core.fin_bits]; decide, by decide +kernel⟩
theorem own_c (x : Int32) : 1 ≤ (own_v0_1 x).toInt ∧ (own_v0_1 x).toInt ≤ 1024 := by
  have h2 : (x &&& (1023 : Int32)).toInt = x.toInt % 2 ^ 10 := Jvm.Kit.i32_mask _ _ (k := 10) (by decide) (by decide)
  have e1 : (1 : Int32).toInt = 1 := by decide
  unfold own_v0_1; rw [Jvm.Kit.i64_of_i32, Jvm.Kit.i32_add (by rw [h2, e1]; omega) (by rw [h2, e1]; omega), h2, e1]; omega
theorem own_pos (x : Int32) : (0 : Int64) < own_v0_1 x := by
  rw [Int64.lt_iff_toInt_lt]; have := own_c x; show (0 : Int) < _; omega
theorem own_lc (x : Int32) : own_is (own_v0_1 x).toInt (FP.l2d (own_v0_1 x)) := own_is_l2d (by have := own_c x; omega)
theorem own_j (x : Int32) : (x &&& (7 : Int32)).toInt64.toInt = x.toInt % 8 := by
  rw [Jvm.Kit.i64_of_i32, Jvm.Kit.i32_mask _ _ (k := 3) (by decide) (by decide)]; rfl
theorem own_cb {c k : Int} (h1 : 1 ≤ c) (h2 : c ≤ 1024) {B : Int} (h3 : -B ≤ k) (h4 : k ≤ B) : -(1024 * B) ≤ c * k ∧ c * k ≤ 1024 * B := by
  have q : (c * k).natAbs ≤ 1024 * B.toNat := by rw [Int.natAbs_mul]; exact Nat.mul_le_mul (by omega) (by omega)
  omega
/-! mode 1 -/
theorem own_8kj (k j : Int32) : ((8 : Int64) * k.toInt64 + (j &&& (7 : Int32)).toInt64).toInt = 8 * k.toInt + j.toInt % 8 := by
  have b1 := Int32.le_toInt k; have b2 := Int32.toInt_lt k; have hj := own_j j; have hk := Jvm.Kit.i64_of_i32 k
  have e8 : (8 : Int64).toInt = 8 := by decide
  have m : ((8 : Int64) * k.toInt64).toInt = 8 * k.toInt := by rw [Jvm.Kit.i64_mul (by rw [e8, hk]; omega) (by rw [e8, hk]; omega), e8, hk]
  rw [Jvm.Kit.i64_add (by rw [m, hj]; omega) (by rw [m, hj]; omega), m, hj]
theorem own_exp (k j : Int32) : own_at (8 * k.toInt + j.toInt % 8) 1071 (own_v0_3 k j) := by
  have b1 := Int32.le_toInt k; have b2 := Int32.toInt_lt k
  have hl := own_is_l2d (x := (8 : Int64) * k.toInt64 + (j &&& (7 : Int32)).toInt64) (by rw [own_8kj]; omega)
  rw [own_8kj] at hl
  exact own_at_divp (j := 1071) (i := 3) (own_at_is hl) own_8d (by omega) (by decide)
theorem own_tot (k c j : Int32) : (own_v0_2 k c j).toInt = (own_v0_1 c).toInt * (1000 * k.toInt + 125 * (j.toInt % 8)) ∧ (own_v0_2 k c j).toInt.natAbs < 2 ^ 53 := by
  have b1 := Int32.le_toInt k; have b2 := Int32.toInt_lt k; have hj := own_j j; have hk := Jvm.Kit.i64_of_i32 k; have hc := own_c c
  have e1 : (1000 : Int64).toInt = 1000 := by decide
  have e2 : (125 : Int64).toInt = 125 := by decide
  have m1 : ((1000 : Int64) * k.toInt64).toInt = 1000 * k.toInt := by rw [Jvm.Kit.i64_mul (by rw [e1, hk]; omega) (by rw [e1, hk]; omega), e1, hk]
  have m2 : ((125 : Int64) * (j &&& (7 : Int32)).toInt64).toInt = 125 * (j.toInt % 8) := by rw [Jvm.Kit.i64_mul (by rw [e2, hj]; omega) (by rw [e2, hj]; omega), e2, hj]
  have m3 : ((1000 : Int64) * k.toInt64 + (125 : Int64) * (j &&& (7 : Int32)).toInt64).toInt = 1000 * k.toInt + 125 * (j.toInt % 8) := by rw [Jvm.Kit.i64_add (by rw [m1, m2]; omega) (by rw [m1, m2]; omega), m1, m2]
  have q := own_cb hc.1 hc.2 (B := 2147483650000) (k := 1000 * k.toInt + 125 * (j.toInt % 8)) (by omega) (by omega)
  have e : (own_v0_2 k c j).toInt = (own_v0_1 c).toInt * (1000 * k.toInt + 125 * (j.toInt % 8)) := by unfold own_v0_2; rw [Jvm.Kit.i64_mul (by rw [m3]; omega) (by rw [m3]; omega), m3]
  exact ⟨e, by rw [e]; omega⟩
theorem own_t1 (k c j : Int32) : own_at ((own_v0_1 c).toInt * (8 * k.toInt + j.toInt % 8)) 1071 (FP.ddiv (FP.l2d (own_v0_2 k c j)) (4652007308841189376 : UInt64)) := by
  have b1 := Int32.le_toInt k; have b2 := Int32.toInt_lt k; have hc := own_c c; have ht := own_tot k c j
  have q := own_cb hc.1 hc.2 (B := 17179869190) (k := 8 * k.toInt + j.toInt % 8) (by omega) (by omega)
  have hl := own_is_l2d (x := own_v0_2 k c j) (by have := ht.2; omega)
  refine own_at_div (own_at_is hl) (own_at_is own_k1000) (by decide) 1071 ?_ (by omega) (by decide)
  rw [ht.1]
  have e : ((2 ^ (1074 + 1074) : Nat) : Int) = 8 * ((2 ^ (1071 + 1074) : Nat) : Int) := by decide +kernel
  rw [e]
  have l : (own_v0_1 c).toInt * (8 * k.toInt + j.toInt % 8) * 1000 = (own_v0_1 c).toInt * (1000 * k.toInt + 125 * (j.toInt % 8)) * 8 := by
    rw [Int.mul_assoc, Int.mul_assoc]; congr 1; omega
  rw [l, Int.mul_assoc]
theorem own_t2 (k c j : Int32) : own_at (8 * k.toInt + j.toInt % 8) 1071 (FP.ddiv (FP.ddiv (FP.l2d (own_v0_2 k c j)) (4652007308841189376 : UInt64)) (FP.l2d (own_v0_1 c))) := by
  have b1 := Int32.le_toInt k; have b2 := Int32.toInt_lt k; have hc := own_c c
  refine own_at_div (own_t1 k c j) (own_at_is (own_lc c)) (by omega) 1071 ?_ (by omega) (by decide)
  rw [Int.mul_comm (8 * k.toInt + j.toInt % 8)]
/-! mode 2, 3 -/
theorem own_rest (c : Int32) (e : Int64) : 0 ≤ (own_v0_4 c e).toInt ∧ (own_v0_4 c e).toInt < 1000 * (own_v0_1 c).toInt := by
  have hc := own_c c
  have e1 : (1000 : Int64).toInt = 1000 := by decide
  have m : ((1000 : Int64) * own_v0_1 c).toInt = 1000 * (own_v0_1 c).toInt := by rw [Jvm.Kit.i64_mul (by rw [e1]; omega) (by rw [e1]; omega), e1]
  have h2 : (e &&& (9223372036854775807 : Int64)).toInt = e.toInt % 2 ^ 63 := Jvm.Kit.i64_mask _ _ (k := 63) (by decide) (by decide)
  have h0 : 0 ≤ (e &&& (9223372036854775807 : Int64)).toInt := by rw [h2]; omega
  unfold own_v0_4
  rw [Jvm.Kit.i64_rem_nonneg h0, m]
  exact ⟨Int.emod_nonneg _ (by omega), Int.emod_lt_of_pos _ (by omega)⟩
theorem own_tt (k c : Int32) (e : Int64) : (own_v0_5 k c e).toInt = 1000 * ((own_v0_1 c).toInt * k.toInt) + (own_v0_4 c e).toInt ∧ (own_v0_5 k c e).toInt.natAbs < 2 ^ 53 := by
  have b1 := Int32.le_toInt k; have b2 := Int32.toInt_lt k; have hc := own_c c; have hr := own_rest c e; have hk := Jvm.Kit.i64_of_i32 k
  have e1 : (1000 : Int64).toInt = 1000 := by decide
  have m : ((1000 : Int64) * own_v0_1 c).toInt = 1000 * (own_v0_1 c).toInt := by rw [Jvm.Kit.i64_mul (by rw [e1]; omega) (by rw [e1]; omega), e1]
  have q := own_cb hc.1 hc.2 (B := 2147483648) (k := k.toInt) (by omega) (by omega)
  have m2 : ((1000 : Int64) * own_v0_1 c * k.toInt64).toInt = 1000 * ((own_v0_1 c).toInt * k.toInt) := by
    rw [Jvm.Kit.i64_mul (by rw [m, hk, Int.mul_assoc]; omega) (by rw [m, hk, Int.mul_assoc]; omega), m, hk, Int.mul_assoc]
  have r : (own_v0_5 k c e).toInt = 1000 * ((own_v0_1 c).toInt * k.toInt) + (own_v0_4 c e).toInt := by unfold own_v0_5; rw [Jvm.Kit.i64_add (by rw [m2]; omega) (by rw [m2]; omega), m2]
  exact ⟨r, by rw [r]; omega⟩
theorem own_mid (k c : Int32) (e : Int64) : FP.Core.DFin (FP.ddiv (FP.l2d (own_v0_5 k c e)) (4652007308841189376 : UInt64)) ∧ (own_v0_1 c).toInt * k.toInt * own_U ≤ own_zv (FP.ddiv (FP.l2d (own_v0_5 k c e)) (4652007308841189376 : UInt64)) ∧ own_zv (FP.ddiv (FP.l2d (own_v0_5 k c e)) (4652007308841189376 : UInt64)) ≤ (own_v0_1 c).toInt * (k.toInt + 1) * own_U := by
  have b1 := Int32.le_toInt k; have b2 := Int32.toInt_lt k; have hc := own_c c; have hr := own_rest c e; have ht := own_tt k c e; have hU := own_U_pos
  have q := own_cb hc.1 hc.2 (B := 2147483648) (k := k.toInt) (by omega) (by omega)
  have q' := own_cb hc.1 hc.2 (B := 2147483649) (k := k.toInt + 1) (by omega) (by omega)
  have hl := own_is_l2d (x := own_v0_5 k c e) (by have := ht.2; omega)
  have hd := own_is_div_rnd hl own_k1000 (by decide)
  obtain ⟨V1, f1, z1⟩ := own_rep_is ((own_v0_1 c).toInt * k.toInt) (by omega)
  obtain ⟨V2, f2, z2⟩ := own_rep_is ((own_v0_1 c).toInt * (k.toInt + 1)) (by omega)
  have g1 := hd.2.1 V1 f1.ne_nan (by
    rw [z1, ht.1]
    have : (own_v0_1 c).toInt * k.toInt * own_U * 1000 = (1000 * ((own_v0_1 c).toInt * k.toInt)) * own_U := by simp only [Int.mul_assoc, Int.mul_comm, Int.mul_left_comm]
    rw [this]; exact Int.mul_le_mul_of_nonneg_right (by omega) (Int.le_of_lt hU))
  have g2 := hd.2.2 V2 f2.ne_nan (by
    rw [z2, ht.1]
    have : (own_v0_1 c).toInt * (k.toInt + 1) * own_U * 1000 = (1000 * ((own_v0_1 c).toInt * (k.toInt + 1))) * own_U := by simp only [Int.mul_assoc, Int.mul_comm, Int.mul_left_comm]
    rw [this]; refine Int.mul_le_mul_of_nonneg_right ?_ (Int.le_of_lt hU)
    rw [Int.mul_add, Int.mul_one]; omega)
  rw [z1] at g1; rw [z2] at g2
  exact ⟨own_fin_between hd.1 f1 f2 (by rw [z1]; exact g1) (by rw [z2]; exact g2), g1, g2⟩
theorem own_avg (k c : Int32) (e : Int64) : own_rnd (own_zv (FP.ddiv (FP.l2d (own_v0_5 k c e)) (4652007308841189376 : UInt64))) (own_v0_1 c).toInt (FP.ddiv (FP.ddiv (FP.l2d (own_v0_5 k c e)) (4652007308841189376 : UInt64)) (FP.l2d (own_v0_1 c))) :=
  own_div_rnd (own_mid k c e).1 (own_lc c) (by have := own_c c; omega)
theorem own_if (c t : Int64) (h : (0 : Int64) < c) : own_r3_2 c t = FP.ddiv (FP.ddiv (FP.l2d t) (4652007308841189376 : UInt64)) (FP.l2d c) := if_pos h
section X
variable (p0_0 p0_1 p0_2 p0_3 : Int32) (q0_4 q0_5 : Int64)
theorem own_neg : ¬ (0 : Int64) < own_j0_0 q0_4 := by
  unfold own_j0_0; split
  · rename_i h
    rw [Int64.lt_iff_toInt_lt] at h ⊢
    have b := Int64.le_toInt q0_4; have b2 := Int64.toInt_lt q0_4
    have z : (0 : Int64).toInt = 0 := by decide
    rw [z] at h ⊢
    rw [Jvm.Kit.i64_neg (by omega)]; omega
  · assumption
theorem own_x_c49_nn19 : (0 : Int64) < (own_j0_0 q0_4) → NoNaN64 (FP.ddiv (FP.l2d q0_5) (4652007308841189376 : UInt64)) := fun h => absurd h (own_neg q0_4)
theorem own_x_c49_nn25 : (0 : Int64) < (own_j0_0 q0_4) → NoNaN64 (FP.ddiv (FP.ddiv (FP.l2d q0_5) (4652007308841189376 : UInt64)) (FP.l2d (own_j0_0 q0_4))) := fun h => absurd h (own_neg q0_4)
theorem own_x_hc54 : (cmpValue (FP.dcmp (own_r3_2 (own_j0_0 q0_4) q0_5) (0 : UInt64)) .l) = (0 : Int32) := by
  have : own_r3_2 (own_j0_0 q0_4) q0_5 = 0 := if_neg (own_neg q0_4)
  rw [this]; exact own_self own_is_0.1 _
theorem own_x_nn137 : NoNaN64 (FP.ddiv (FP.l2d (((8 : Int64) * p0_0.toInt64) + (p0_2 &&& (7 : Int32)).toInt64)) (4620693217682128896 : UInt64)) := own_at_nn (own_exp p0_0 p0_2)
theorem own_x_c142_nn19 : (0 : Int64) < (own_v0_1 p0_1) → NoNaN64 (FP.ddiv (FP.l2d (own_v0_2 p0_0 p0_1 p0_2)) (4652007308841189376 : UInt64)) := fun _ => own_at_nn (own_t1 p0_0 p0_1 p0_2)
theorem own_x_c142_nn25 : (0 : Int64) < (own_v0_1 p0_1) → NoNaN64 (FP.ddiv (FP.ddiv (FP.l2d (own_v0_2 p0_0 p0_1 p0_2)) (4652007308841189376 : UInt64)) (FP.l2d (own_v0_1 p0_1))) := fun _ => own_at_nn (own_t2 p0_0 p0_1 p0_2)
theorem own_x_hc148 : (cmpValue (FP.dcmp (own_r3_2 (own_v0_1 p0_1) (own_v0_2 p0_0 p0_1 p0_2)) (own_v0_3 p0_0 p0_2)) .l) = (0 : Int32) := by
  rw [own_if _ _ (own_pos p0_1)]; exact own_at_eq (own_t2 p0_0 p0_1 p0_2) (own_exp p0_0 p0_2) _
theorem own_x_hz169 : ((1000 : Int64) * (own_v0_1 p0_1)) ≠ 0 := by
  intro h
  have hc := own_c p0_1
  have e1 : (1000 : Int64).toInt = 1000 := by decide
  have m : ((1000 : Int64) * own_v0_1 p0_1).toInt = 1000 * (own_v0_1 p0_1).toInt := by rw [Jvm.Kit.i64_mul (by rw [e1]; omega) (by rw [e1]; omega), e1]
  rw [h] at m
  have z : (0 : Int64).toInt = 0 := by decide
  rw [z] at m; omega
theorem own_x_c208_nn19 : (0 : Int64) < (own_v0_1 p0_1) → NoNaN64 (FP.ddiv (FP.l2d (own_v0_5 p0_0 p0_1 q0_5)) (4652007308841189376 : UInt64)) := fun _ => own_fin_nn (own_mid p0_0 p0_1 q0_5).1
theorem own_x_c208_nn25 : (0 : Int64) < (own_v0_1 p0_1) → NoNaN64 (FP.ddiv (FP.ddiv (FP.l2d (own_v0_5 p0_0 p0_1 q0_5)) (4652007308841189376 : UInt64)) (FP.l2d (own_v0_1 p0_1))) := fun _ => own_rnd_nn (own_avg p0_0 p0_1 q0_5)
theorem own_x_hc229 : ¬ ((0 : Int32) < (cmpValue (FP.dcmp (FP.i2d p0_0) (own_v0_6 p0_0 p0_1 q0_5)) .g)) := by
  have ha := own_avg p0_0 p0_1 q0_5; have hm := own_mid p0_0 p0_1 q0_5; have hk := own_is_i2d p0_0
  have e : own_v0_6 p0_0 p0_1 q0_5 = _ := own_if _ _ (own_pos p0_1)
  rw [e]
  refine own_cmp_le hk.1.ne_nan ha.1 (ha.2.1 _ hk.1.ne_nan ?_) _
  rw [hk.2]
  have : p0_0.toInt * own_U * (own_v0_1 p0_1).toInt = (own_v0_1 p0_1).toInt * p0_0.toInt * own_U := by simp only [Int.mul_assoc, Int.mul_comm, Int.mul_left_comm]
  rw [this]; exact hm.2.1
theorem own_x_hc237 : ¬ ((0 : Int32) < (cmpValue (FP.dcmp (own_v0_6 p0_0 p0_1 q0_5) (own_v0_7 p0_0)) .g)) := by
  have ha := own_avg p0_0 p0_1 q0_5; have hm := own_mid p0_0 p0_1 q0_5
  have b1 := Int32.le_toInt p0_0; have b2 := Int32.toInt_lt p0_0; have hk := Jvm.Kit.i64_of_i32 p0_0
  have e1 : (1 : Int64).toInt = 1 := by decide
  have s : (p0_0.toInt64 + (1 : Int64)).toInt = p0_0.toInt + 1 := by rw [Jvm.Kit.i64_add (by rw [hk, e1]; omega) (by rw [hk, e1]; omega), hk, e1]
  have hl : own_is (p0_0.toInt + 1) (own_v0_7 p0_0) := by rw [← s]; exact own_is_l2d (by rw [s]; omega)
  have e : own_v0_6 p0_0 p0_1 q0_5 = _ := own_if _ _ (own_pos p0_1)
  rw [e]
  refine own_cmp_le ha.1 hl.1.ne_nan (ha.2.2 _ hl.1.ne_nan ?_) _
  rw [hl.2]
  have : (p0_0.toInt + 1) * own_U * (own_v0_1 p0_1).toInt = (own_v0_1 p0_1).toInt * (p0_0.toInt + 1) * own_U := by simp only [Int.mul_assoc, Int.mul_comm, Int.mul_left_comm]
  rw [this]; exact hm.2.2
end X

set_option maxRecDepth 65536 in
set_option maxHeartbeats 40000000 in
theorem comes_1 {Post : Tables → Env → Array Value → State → Outcome → State → Prop} (hpost : ∀ tb e args s v u, (limb_1_1.after args s (.returned v) u = true ∧ limb_1_2.after args s (.returned v) u = true ∧ True) → FrameEnd s (.returned v) u (Jvm.fieldLocs frame_1_writes args s ++ Jvm.arrayLocs frame_1_arrays args s ++ Jvm.staticLocs frame_1_statics s) 16 128 → Post tb e args s (.returned v) u) :
    ArmFor flags0 classFile x code maxLocals ret World_1 tables_1 room_1 Calls_1 rest_1 Pre_1 Post := by
  intro l hfl _ _ p e ha hc hk s m args below hf hA hF happ hP
  obtain ⟨hcalls, hrest, hpre⟩ := hP
  obtain ⟨-, -, -, hnamed, -, -, -, hat⟩ := (Spec.applies_iff hf).mp happ
  obtain ⟨hg, hn⟩ := and_e (Cond.before_iff.mp (show (Jvm.Cond.and given_1 narrow_1).before args s = true from hpre))
  obtain ⟨g1a, g1b⟩ := and_e hg
  obtain ⟨g2a, g2b⟩ := and_e g1b
  obtain ⟨g3a, g3b⟩ := and_e g2b
  obtain ⟨g4a, g4b⟩ := and_e g3b
  obtain ⟨g5a, g5b⟩ := and_e g4b
  obtain ⟨g6a, g6b⟩ := and_e g5b
  obtain ⟨w0, w1, w2, w3, w4, w5, rfl⟩ : ∃ w0 w1 w2 w3 w4 w5 : Value, args = #[w0, w1, w2, w3, w4, w5] := by
    have hs : args.size = 6 := by simpa [Cond.value, given_1] using g1a
    obtain ⟨L⟩ := args
    match L, hs with
    | [w0, w1, w2, w3, w4, w5], _ => exact ⟨w0, w1, w2, w3, w4, w5, rfl⟩
  have hw := fun d (hd : d ∈ tables_1) => atoms_spec (ws := Jvm.Cond.code x code maxLocals ret :: tables_1) hat d (List.mem_cons_of_mem _ hd)
  obtain ⟨i0, ei0⟩ := is_v g2a
  obtain rfl : w0 = (.int i0) := Option.some.inj ei0
  obtain ⟨i1, ei1⟩ := is_v g3a
  obtain rfl : w1 = (.int i1) := Option.some.inj ei1
  obtain ⟨i2, ei2⟩ := is_v g4a
  obtain rfl : w2 = (.int i2) := Option.some.inj ei2
  obtain ⟨i3, ei3⟩ := is_v g5a
  obtain rfl : w3 = (.int i3) := Option.some.inj ei3
  obtain ⟨i4, ei4⟩ := isL_v g6a
  obtain rfl : w4 = (.long i4) := Option.some.inj ei4
  obtain ⟨i5, ei5⟩ := isL_v g6b
  obtain rfl : w5 = (.long i5) := Option.some.inj ei5
  obtain ⟨n, o, h1, h2, h3, _, L, rfl, ⟨rfl, N⟩, hq⟩ := own_rm0 l s _ hw tables_1 i0 i1 i2 i3 i4 i5 s.heap s.heap.size (Nat.le_refl _) (by first | exact own_x_c49_nn19 i0 i1 i2 i3 i4 i5 | exact own_x_c49_nn19 i4 i5) (by first | exact own_x_c49_nn25 i0 i1 i2 i3 i4 i5 | exact own_x_c49_nn25 i4 i5) (by first | exact own_x_hc54 i0 i1 i2 i3 i4 i5 | exact own_x_hc54 i4 i5) (by first | exact own_x_nn137 i0 i1 i2 i3 i4 i5 | exact own_x_nn137 i0 i2) (by first | exact own_x_c142_nn19 i0 i1 i2 i3 i4 i5 | exact own_x_c142_nn19 i0 i1 i2) (by first | exact own_x_c142_nn25 i0 i1 i2 i3 i4 i5 | exact own_x_c142_nn25 i0 i1 i2) (by first | exact own_x_hc148 i0 i1 i2 i3 i4 i5 | exact own_x_hc148 i0 i1 i2) (by first | exact own_x_hz169 i0 i1 i2 i3 i4 i5 | exact own_x_hz169 i1) (by first | exact own_x_c208_nn19 i0 i1 i2 i3 i4 i5 | exact own_x_c208_nn19 i0 i1 i5) (by first | exact own_x_c208_nn25 i0 i1 i2 i3 i4 i5 | exact own_x_c208_nn25 i0 i1 i5) (by first | exact own_x_hc229 i0 i1 i2 i3 i4 i5 | exact own_x_hc229 i0 i1 i5) (by first | exact own_x_hc237 i0 i1 i2 i3 i4 i5 | exact own_x_hc237 i0 i1 i5) p e ha hc hk s m _ below hf ((Spec.applies_iff_loose hf).mp happ).1 ⟨rfl, State.Warmed39.refl s, rfl⟩ trivial
  refine ⟨n, _, h1, h2, h3, hpost _ _ _ _ _ _ ⟨Cond.after_iff.mpr rfl, Cond.after_iff.mpr (eq_i res_at (Term.int_eval (1)) rfl), trivial⟩ ⟨hq.1, hq.2.1, (hq.2.2.sift fun y hy => Or.inr (N y hy)).mono (by decide) (by decide)⟩⟩
theorem main_1_1 : Claimed_1_1 := comes_1 fun _ _ _ _ _ _ h hF => ⟨h.1, hF⟩
theorem main_1_2 : Claimed_1_2 := comes_1 fun _ _ _ _ _ _ h hF => ⟨h.2.1, hF⟩
end Jvm.Pilot.@@N@@
namespace Jvm.Pilot.@@N@@
open Jvm Jvm.ClassFile Sem Op Lib Jvm.Free Jvm.Stand Jvm.Pilot.@@N@@.Jvm.D
/-! MADE BY PROGRAM (witnessworld.py) out of the Statement's table words and the real class files: 9 classes; the members and pool entries that the words name. The judged class is class 1, her method 1. -/
namespace start1
open Jvm.ClassFile
def u (s : String) : CpInfo := .utf8 (stringToUtf16 s)
/-- a pool by its gaps: so many unusable entries, then the entry; so many at the end -/
def gap : Nat → List CpInfo → List CpInfo
  | 0, r => r
  | n + 1, r => .unusable :: gap n r
def poolList (es : List (Nat × CpInfo)) (last : Nat) : List CpInfo := es.foldr (fun e r => gap e.1 (e.2 :: r)) (gap last [])
def pool (es : List (Nat × CpInfo)) (last : Nat) : Array CpInfo := ⟨poolList es last⟩
def fileOf (pool : Array CpInfo) (this : Nat) (attrs : Array Attribute := #[]) (ms : Array MethodInfo := #[]) (fl : Nat := 33) (sup : Nat := 0) (ifs : Array Nat := #[]) (fds : Array FieldInfo := #[]) : ClassFile where
  minorVersion := 0
  majorVersion := 65
  constantPool := pool
  accessFlags := fl
  thisClass := this
  superClass := sup
  interfaces := ifs
  fields := fds
  methods := ms
  attributes := attrs
def plain (name : String) (sup : Option ClassId) : Class where
  name := name
  kind := .ordinary
  loader := none
  accessFlags := 33
  super := sup
  interfaces := #[]
  cf := none
  fields := #[]
  methods := #[]
  instanceTypes := #[]
  staticTypes := #[]
  resolved := #[]
  callSites := []
  init := .initialized
  statics := none
  mirror := none

def pool0 : Array CpInfo := pool [(5, u "<init>"), (0, u "()V"), (1, .class_ 10), (1, u "java/lang/Object")] 113

def k0c0 : Code := { maxStack := 0, maxLocals := 1, code := object_method_1_code, exceptionTable := #[], attributes := #[] }
def k0m0 : Method := { name := "<init>", desc := "()V", sig := { parameters := [], returnType := none }, accessFlags := 1, code := some k0c0 }
/-- java/lang/Object -/
def k0 : Class := { plain "java/lang/Object" none with
  accessFlags := 33
  interfaces := #[]
  cf := some (fileOf pool0 8 #[] #[{ accessFlags := 1, nameIndex := 5, descriptorIndex := 6, attributes := #[] }] 33 0 #[] #[])
  fields := #[]
  methods := #[k0m0]
  instanceTypes := #[]
  staticTypes := #[]
  resolved := Array.replicate 124 none
  statics := none }

def pool1 : Array CpInfo := pool [(2, .class_ 4), (1, u "java/lang/Object"), (0, u "<init>"), (0, u "()V"), (0, .class_ 8), (0, u "com/example/ostia/ostia/PoolStatus"), (0, .methodref 7 10), (0, .nameAndType 5 11), (0, u "(IIIJJJJJJ)V"), (0, .methodref 7 13), (0, .nameAndType 14 15), (0, u "averageWaitMillis"), (0, u "()D"), (0, .long 1000), (1, .long 125), (1, .long 8), (1, .double 4620693217682128896), (3, .long 9223372036854775807), (1, .class_ 29), (0, u "com/example/ostia/ostia/PoolStatusAverageWaitMillisPinLaw"), (2, u "law"), (0, u "(IIIIJJ)Z")] 3

def k1m0 : Method := { name := "<init>", desc := "()V", sig := { parameters := [], returnType := none }, accessFlags := 1, code := none }
def k1c1 : Code := { maxStack := 17, maxLocals := 22, code := code, exceptionTable := #[], attributes := #[] }
def k1m1 : Method := { name := "law", desc := "(IIIIJJ)Z", sig := { parameters := [.int, .int, .int, .int, .long, .long], returnType := some .boolean }, accessFlags := 9, code := some k1c1 }
/-- com/example/ostia/ostia/PoolStatusAverageWaitMillisPinLaw -/
def k1 : Class := { plain "com/example/ostia/ostia/PoolStatusAverageWaitMillisPinLaw" (some 0) with
  accessFlags := 49
  interfaces := #[]
  cf := some (fileOf pool1 28 #[] #[{ accessFlags := 1, nameIndex := 5, descriptorIndex := 6, attributes := #[] }, { accessFlags := 9, nameIndex := 32, descriptorIndex := 33, attributes := #[] }] 49 2 #[] #[])
  fields := #[]
  methods := #[k1m0, k1m1]
  instanceTypes := #[]
  staticTypes := #[]
  resolved := Array.replicate 37 none
  statics := none }

def pool2 : Array CpInfo := pool [(1, .methodref 2 3), (0, .class_ 4), (0, .nameAndType 5 6), (0, u "java/lang/Object"), (0, u "<init>"), (0, u "()V"), (0, .fieldref 8 9), (0, .class_ 10), (0, .nameAndType 11 12), (0, u "com/example/ostia/ostia/PoolStatus"), (0, u "inUse"), (0, u "I"), (0, .fieldref 8 14), (0, .nameAndType 15 12), (0, u "idle"), (0, .fieldref 8 17), (0, .nameAndType 18 12), (0, u "waiting"), (0, .fieldref 8 20), (0, .nameAndType 21 22), (0, u "opened"), (0, u "J"), (0, .fieldref 8 24), (0, .nameAndType 25 22), (0, u "closed"), (0, .fieldref 8 27), (0, .nameAndType 28 22), (0, u "calls"), (0, .fieldref 8 30), (0, .nameAndType 31 22), (0, u "timeouts"), (0, .fieldref 8 33), (0, .nameAndType 34 22), (0, u "totalWaitMicros"), (0, .fieldref 8 36), (0, .nameAndType 37 22), (0, u "longestWaitNanos"), (10, .double 4652007308841189376), (9, u "(IIIJJJJJJ)V"), (6, u "averageWaitMillis"), (0, u "()D")] 29

def k2c0 : Code := { maxStack := 3, maxLocals := 16, code := prog_14_method_1_code, exceptionTable := #[], attributes := #[] }
def k2m0 : Method := { name := "<init>", desc := "(IIIJJJJJJ)V", sig := { parameters := [.int, .int, .int, .long, .long, .long, .long, .long, .long], returnType := none }, accessFlags := 0, code := some k2c0 }
def k2c1 : Code := { maxStack := 4, maxLocals := 3, code := prog_14_method_9_code, exceptionTable := #[], attributes := #[] }
def k2m1 : Method := { name := "averageWaitMillis", desc := "()D", sig := { parameters := [], returnType := some .double }, accessFlags := 1, code := some k2c1 }
/-- com/example/ostia/ostia/PoolStatus -/
def k2 : Class := { plain "com/example/ostia/ostia/PoolStatus" (some 0) with
  accessFlags := 49
  interfaces := #[]
  cf := some (fileOf pool2 8 #[] #[{ accessFlags := 0, nameIndex := 5, descriptorIndex := 58, attributes := #[] }, { accessFlags := 1, nameIndex := 65, descriptorIndex := 66, attributes := #[] }] 49 2 #[] #[{ accessFlags := 18, nameIndex := 11, descriptorIndex := 12, attributes := #[] }, { accessFlags := 18, nameIndex := 15, descriptorIndex := 12, attributes := #[] }, { accessFlags := 18, nameIndex := 18, descriptorIndex := 12, attributes := #[] }, { accessFlags := 18, nameIndex := 21, descriptorIndex := 22, attributes := #[] }, { accessFlags := 18, nameIndex := 25, descriptorIndex := 22, attributes := #[] }, { accessFlags := 18, nameIndex := 28, descriptorIndex := 22, attributes := #[] }, { accessFlags := 18, nameIndex := 31, descriptorIndex := 22, attributes := #[] }, { accessFlags := 18, nameIndex := 34, descriptorIndex := 22, attributes := #[] }, { accessFlags := 18, nameIndex := 37, descriptorIndex := 22, attributes := #[] }])
  fields := #[{ name := "inUse", type := .int, accessFlags := 18, slot := 0, constantValue := 0 }, { name := "idle", type := .int, accessFlags := 18, slot := 1, constantValue := 0 }, { name := "waiting", type := .int, accessFlags := 18, slot := 2, constantValue := 0 }, { name := "opened", type := .long, accessFlags := 18, slot := 3, constantValue := 0 }, { name := "closed", type := .long, accessFlags := 18, slot := 4, constantValue := 0 }, { name := "calls", type := .long, accessFlags := 18, slot := 5, constantValue := 0 }, { name := "timeouts", type := .long, accessFlags := 18, slot := 6, constantValue := 0 }, { name := "totalWaitMicros", type := .long, accessFlags := 18, slot := 7, constantValue := 0 }, { name := "longestWaitNanos", type := .long, accessFlags := 18, slot := 8, constantValue := 0 }]
  methods := #[k2m0, k2m1]
  instanceTypes := #[.int, .int, .int, .long, .long, .long, .long, .long, .long]
  staticTypes := #[]
  resolved := Array.replicate 96 none
  statics := none }

def pool3 : Array CpInfo := pool [(1, u "java/lang/Cloneable"), (0, .class_ 1), (0, u "java/lang/Object"), (0, .class_ 3)] 3

/-- java/lang/Cloneable -/
def k3 : Class := { plain "java/lang/Cloneable" (some 0) with
  accessFlags := 1537
  interfaces := #[]
  cf := some (fileOf pool3 2 #[] #[] 1537 4 #[] #[])
  fields := #[]
  methods := #[]
  instanceTypes := #[]
  staticTypes := #[]
  resolved := Array.replicate 8 none
  statics := none }

def pool4 : Array CpInfo := pool [(1, u "java/io/Serializable"), (0, .class_ 1), (0, u "java/lang/Object"), (0, .class_ 3)] 3

/-- java/io/Serializable -/
def k4 : Class := { plain "java/io/Serializable" (some 0) with
  accessFlags := 1537
  interfaces := #[]
  cf := some (fileOf pool4 2 #[] #[] 1537 4 #[] #[])
  fields := #[]
  methods := #[]
  instanceTypes := #[]
  staticTypes := #[]
  resolved := Array.replicate 8 none
  statics := none }

/-- the primitive byte -/
def k5 : Class := { plain "byte" none with kind := .primitive 'B', accessFlags := 0x411 }
/-- [B -/
def k6 : Class := { plain "[B" (some 0) with kind := .array 5 .byte, interfaces := #[3, 4], accessFlags := 1041 }

/-- the primitive int -/
def k7 : Class := { plain "int" none with kind := .primitive 'I', accessFlags := 0x411 }
/-- [I -/
def k8 : Class := { plain "[I" (some 0) with kind := .array 7 .int, interfaces := #[3, 4], accessFlags := 1041 }

def heap : Heap := #[]
def classes : Array Class := #[k0, k1, k2, k3, k4, k5, k6, k7, k8]
def interned : List (Array UInt16 × Addr) := []
def slotsUsed : Nat := 0
def theMethod : MethodId := ⟨1, 1⟩
def args0 : Array Value := #[.int 5, .int 6, .int 3, .int 1, .long 7, .long 9]
def aboutOver (below : List Frame) : State where
  vm := { classes := classes, interned := interned.toArray }
  heap := heap
  slotsUsed := slotsUsed
  threads := #[{ frames := .invoking theMethod args0 :: below }]
def below0 : List Frame := [.native { method := ⟨0, 0⟩, args := #[] }]
def about1 : State := aboutOver below0
def p0 : Program := .bare "" "" ""
def e0 : Env := launch0.env 0 0 0
theorem w_frames : about1.frames = Frame.invoking theMethod args0 :: below0 := rfl
set_option maxRecDepth 65536 in
theorem w_args : argsFit about1.vm theMethod args0 = true := by decide +kernel
set_option maxRecDepth 65536 in
theorem w_heap : heapFits about1 = true := by decide +kernel
set_option maxRecDepth 65536 in
theorem w_runnable : about1.curStatus? = some .runnable := by decide +kernel
set_option maxRecDepth 65536 in
theorem w_alone : about1.alone = true := by decide +kernel
set_option maxRecDepth 65536 in
theorem w_named : about1.methodNamed? x = some theMethod := by decide +kernel
set_option maxRecDepth 65536 in
theorem w_hears : about1.hears theMethod below0 = true := by decide +kernel
set_option maxRecDepth 65536 in
theorem w_ripe : about1.ripe theMethod args0 below0 = true := by decide +kernel
theorem w_running : about1.status = .running := rfl
set_option maxRecDepth 65536 in
theorem w_room : about1.hasRoom e0.platform room_1 = true :=
  launch0.hasRoom_least _ room_1 (by decide +kernel) (by decide +kernel) (by decide +kernel) (by decide +kernel) (by decide +kernel) (by decide +kernel)
theorem allAtoms_all (ts : List Jvm.Cond) (a : Array Jvm.Value) (st : Jvm.State) : (allAtoms ts).before a st = ts.all (fun c => c.before a st) := by
  induction ts with
  | nil => rfl
  | cons c t ih =>
    show (Jvm.Cond.and c (allAtoms t)).before a st = _
    rw [Jvm.Cond.before_and, ih, List.all_cons]
def words1 : List Jvm.Cond := Jvm.Cond.code x code maxLocals ret :: tables_1
/-- a 'code' word, met by the world's own term for the bytes: nothing is compared byte by byte -/
theorem code_word {y : MethodName} {bytes : ByteArray} {mx : Nat} {rt : Option FieldType} {a : Array Value} {s : State} {m : MethodId} {meth : Method} {c : Code} (h1 : s.methodNamed? y = some m) (h2 : s.vm.method? m = some meth) (h3 : meth.code = some c) (h4 : c.code = bytes)
    (h5 : (c.maxLocals == mx && c.exceptionTable.isEmpty && decide (c.maxStack ≤ mostOperands) && decide (meth.sig.returnType = rt) && !meth.locks && decide (parseMethodDescriptor y.desc = some meth.sig)) = true) : (Jvm.Cond.code y bytes mx rt).before a s = true := by
  simp only [Bool.and_eq_true, beq_iff_eq, Bool.not_eq_true', decide_eq_true_eq] at h5
  obtain ⟨⟨⟨⟨⟨g1, g2⟩, g3⟩, g4⟩, g5⟩, g6⟩ := h5
  simp [Cond.before, Cond.holds, Cond.value, h1, h2, h3, h4, g1, g2, g3, g4, g5, g6]
def isCode : Jvm.Cond → Bool
  | .code _ _ _ _ => true
  | _ => false
theorem all_split {L : List Jvm.Cond} {P : Jvm.Cond → Bool} (h1 : L.all (fun c => isCode c || P c) = true) (h2 : ∀ c ∈ L.filter isCode, P c = true) : L.all P = true := by
  refine List.all_eq_true.mpr fun c hc => ?_
  have h := List.all_eq_true.mp h1 c hc
  rcases Bool.eq_false_or_eq_true (isCode c) with hi | hi
  · exact h2 c (List.mem_filter.mpr ⟨hc, hi⟩)
  · simpa [hi] using h
set_option maxRecDepth 65536 in
theorem w_c0 : (Jvm.Cond.code x code maxLocals ret).before args0 about1 = true := code_word (m := ⟨1, 1⟩) (meth := k1m1) (c := k1c1) (by decide +kernel) rfl rfl rfl (by decide +kernel)
set_option maxRecDepth 65536 in
theorem w_c1 : (Jvm.Cond.code ({ cls := "com/example/ostia/ostia/PoolStatus", name := "<init>", desc := "(IIIJJJJJJ)V" } : Jvm.MethodName) prog_14_method_1_code (16 : Nat) (Option.none : Option Jvm.ClassFile.FieldType)).before args0 about1 = true := code_word (m := ⟨2, 0⟩) (meth := k2m0) (c := k2c0) (by decide +kernel) rfl rfl rfl (by decide +kernel)
set_option maxRecDepth 65536 in
theorem w_c2 : (Jvm.Cond.code ({ cls := "java/lang/Object", name := "<init>", desc := "()V" } : Jvm.MethodName) object_method_1_code (1 : Nat) (Option.none : Option Jvm.ClassFile.FieldType)).before args0 about1 = true := code_word (m := ⟨0, 0⟩) (meth := k0m0) (c := k0c0) (by decide +kernel) rfl rfl rfl (by decide +kernel)
set_option maxRecDepth 65536 in
theorem w_c3 : (Jvm.Cond.code ({ cls := "com/example/ostia/ostia/PoolStatus", name := "averageWaitMillis", desc := "()D" } : Jvm.MethodName) prog_14_method_9_code (3 : Nat) (Option.some Jvm.ClassFile.FieldType.double)).before args0 about1 = true := code_word (m := ⟨2, 1⟩) (meth := k2m1) (c := k2c1) (by decide +kernel) rfl rfl rfl (by decide +kernel)
def codes1 : List Jvm.Cond := [Jvm.Cond.code x code maxLocals ret, Jvm.Cond.code ({ cls := "com/example/ostia/ostia/PoolStatus", name := "<init>", desc := "(IIIJJJJJJ)V" } : Jvm.MethodName) prog_14_method_1_code (16 : Nat) (Option.none : Option Jvm.ClassFile.FieldType), Jvm.Cond.code ({ cls := "java/lang/Object", name := "<init>", desc := "()V" } : Jvm.MethodName) object_method_1_code (1 : Nat) (Option.none : Option Jvm.ClassFile.FieldType), Jvm.Cond.code ({ cls := "com/example/ostia/ostia/PoolStatus", name := "averageWaitMillis", desc := "()D" } : Jvm.MethodName) prog_14_method_9_code (3 : Nat) (Option.some Jvm.ClassFile.FieldType.double)]
set_option maxRecDepth 65536 in
theorem codes_eq : words1.filter isCode = codes1 := rfl
theorem w_codes : ∀ c ∈ words1.filter isCode, c.before args0 about1 = true := by
  rw [codes_eq]
  intro c hc
  simp only [codes1, List.mem_cons, List.not_mem_nil, or_false] at hc
  rcases hc with rfl | rfl | rfl | rfl
  · exact w_c0
  · exact w_c1
  · exact w_c2
  · exact w_c3
set_option maxRecDepth 65536 in
theorem w_t1 : (words1.take 24).all (fun c => isCode c || c.before args0 about1) = true := by decide +kernel
set_option maxRecDepth 65536 in
theorem w_t2 : (words1.drop 24).all (fun c => isCode c || c.before args0 about1) = true := by decide +kernel
theorem w_tables : (allAtoms (Jvm.Cond.code x code maxLocals ret :: tables_1)).before args0 about1 = true := by
  rw [allAtoms_all]
  show words1.all (fun c => c.before args0 about1) = true
  refine all_split ?_ w_codes
  rw [← List.take_append_drop 24 words1, List.all_append, w_t1, w_t2]
  rfl
set_option maxRecDepth 65536 in
theorem w_case : (Jvm.Cond.and given_1 narrow_1).before args0 about1 = true := by decide +kernel
theorem w_applies : (headSpec (Jvm.Cond.code x code maxLocals ret :: tables_1) room_1).applies x e0.platform about1 = true :=
  (Spec.applies_iff w_frames).mpr ⟨w_running, w_runnable, w_alone, w_named, w_hears, w_ripe, w_room, w_tables⟩
theorem atStart : AtStart classFile x code maxLocals ret World_1 tables_1 room_1 Calls_1 rest_1 Pre_1 launch0 p0 e0 about1 theMethod args0 below0 :=
  ⟨lists_1, trivial, launch0.admits_env _ _ _, launch0.least_env, fairChoices_fair.cas, fairChoices_fair.clock, w_frames, w_args, w_heap, w_applies, trivial, trivial, w_case⟩
end start1
theorem witness_1 : WitnessClaimed_1 := ⟨start1.p0, start1.e0, start1.about1, start1.theMethod, start1.args0, start1.below0, start1.atStart⟩
end Jvm.Pilot.@@N@@
