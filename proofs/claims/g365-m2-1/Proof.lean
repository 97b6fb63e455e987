import JvmDerived
import JvmDerived.Pilot.@@N@@Statement
import JvmDerived.Pilot.@@N@@Code
@@BLOCK:NumsL.lean.txt@@
set_option linter.unusedVariables false
set_option linter.unusedSimpArgs false
namespace Jvm.RoadKit
open Sem ClassFile Op Lib Jvm.Stand Jvm.Free Jvm.LawKit
section New
variable {p : Program} {l : Launch} {e : Env} {R : Room} {s : State} {m : MethodId} {args : Array Value} {below : List Frame} {meth : Method} {c : Code} {T : State} {locs : List Loc} {cells slots : Nat}
theorem retI (X : Stand p l e R s m args below meth c T locs cells slots) (hx : p.tables.exec = Jvm.exec) {pc : Nat} {Ls : Array Slot} {z : Int32} {rest : List Value} (hret : meth.sig.returnType = some .int) (hd : decode c.code pc = .ok (.ireturn, 1)) {fs : List Frame}
    (hl : ∀ (f : JFrame) (acts : List Action), f.method = m → f.locked = none → f.entered = [] → (doReturn e (T.setTop f) acts (some (.int z))).1 = T.setFrames fs) : Steps p.tables e below (T.setTop (mkF m pc Ls (.int z :: rest))) (T.setFrames fs) := by
  have hm' : T.vm.method? m = some meth := X.method'
  have hn : narrow .int (.int z) = .int z := rfl
  show Steps p.tables e below (T.setTop { method := m, pc := pc, locals := Ls, stack := _ :: rest, locked := none }) _
  jvm_step X.here [X.here.top, hx, hd, hm', hret, hn]
  first | (intro acts; rw [hl _ acts rfl rfl rfl]) | rw [hl _ _ rfl rfl rfl]
  exact Steps.refl _
theorem own_retD (X : Stand p l e R s m args below meth c T locs cells slots) (hx : p.tables.exec = Jvm.exec) {pc : Nat} {Ls : Array Slot} {z : UInt64} {rest : List Value} (hret : meth.sig.returnType = some .double) (hd : decode c.code pc = .ok (.dreturn, 1)) {fs : List Frame}
    (hl : ∀ (f : JFrame) (acts : List Action), f.method = m → f.locked = none → f.entered = [] → (doReturn e (T.setTop f) acts (some (.double z))).1 = T.setFrames fs) : Steps p.tables e below (T.setTop (mkF m pc Ls (.double z :: rest))) (T.setFrames fs) := by
  have hm' : T.vm.method? m = some meth := X.method'
  have hn : narrow .double (.double z) = .double z := rfl
  show Steps p.tables e below (T.setTop { method := m, pc := pc, locals := Ls, stack := _ :: rest, locked := none }) _
  jvm_step X.here [X.here.top, hx, hd, hm', hret, hn]
  first | (intro acts; rw [hl _ acts rfl rfl rfl]) | rw [hl _ _ rfl rfl rfl]
  exact Steps.refl _
theorem own_mvM {Z s : State} {a0 args : Array Value} {own host : String} {y : MethodName} {index : Nat} (hZ : Z.Warmed39 s.vm) (w : (Cond.methodLinkNest own index y host).before a0 Z = true) : (Cond.methodLinkNest own index y host).before args s = true := (Cond.methodLinkNest_wide hZ w :)
end New
end Jvm.RoadKit
namespace Jvm.Pilot.@@N@@
open Jvm Jvm.ClassFile Sem Op Lib Jvm.Free Jvm.Stand Jvm.LawKit Jvm.RoadKit Bundle Jvm.Free.Fl Jvm.Pilot.@@N@@.Jvm.D
/-! my own laws on doubles: a result is a rounding of its exact value (monotone), exactness, the order -/
section OwnFloat
open Jvm.FP Jvm.FP.Core
/-- the value in units of 2^-1074 -/
def own_zv (a : UInt64) : Int := Core.zval Core.b64 (Core.val64 a)
abbrev own_U : Int := (Core.one64 : Int)
theorem own_U_pos : 0 < own_U := Int.natCast_pos.mpr Core.one64_pos
/-- r is N / D, rounded, as far as the order goes -/
def own_rnd (N D : Int) (r : UInt64) : Prop :=
  Core.val64 r ≠ .nan ∧ (∀ V, Core.val64 V ≠ .nan → own_zv V * D ≤ N → own_zv V ≤ own_zv r) ∧ (∀ V, Core.val64 V ≠ .nan → N ≤ own_zv V * D → own_zv r ≤ own_zv V)
theorem own_fin_ne {a : UInt64} (h : Core.DFin a) : Core.val64 a ≠ .nan := h.ne_nan
theorem own_pow0 : (2 : Nat) ^ (Core.b64.qmin - Core.b64.qmin).toNat = 1 := by rw [Int.sub_self]; rfl
theorem own_rnd_of_round {x : UInt64} {sg : Bool} {n : Nat} {e e0 : Int} (hx : Core.val64 x = Core.round Core.b64 (.fin sg n e)) (h0 : e0 ≤ Core.b64.qmin) (h0e : e0 ≤ e) :
    own_rnd (Core.signed sg (Core.inUnits n e e0)) (((2 ^ (Core.b64.qmin - e0).toNat : Nat) : Int)) x := by
  refine ⟨?_, fun V hV h => ?_, fun V hV h => ?_⟩
  · rw [hx]; intro q; have := Core.round_nan.mp q; cases this
  · have := Core.zval_round_ge Core.good_b64 (s := sg) (c := n) (q := e) (e0 := e0) (V := Core.val64 V) (Core.val64_fits V) hV h0 h0e h
    unfold own_zv; rw [hx]; exact this
  · have := Core.zval_round_le Core.good_b64 (s := sg) (c := n) (q := e) (e0 := e0) (V := Core.val64 V) (Core.val64_fits V) hV h0 h0e h
    unfold own_zv; rw [hx]; exact this
theorem own_dadd_rnd {a b : UInt64} (ha : Core.DFin a) (hb : Core.DFin b) : own_rnd (own_zv a + own_zv b) 1 (FP.dadd a b) := by
  obtain ⟨s, c, q, ea⟩ := ha
  obtain ⟨t, d, r, eb⟩ := hb
  have fa := Core.val64_fits a; have fb := Core.val64_fits b
  rw [ea] at fa; rw [eb] at fb
  obtain ⟨sg, n, e, h1, h2, h3⟩ := Core.sum_units fa fb
  have hv : Core.val64 (FP.dadd a b) = Core.round Core.b64 (.fin sg n e) := by
    show Core.val64 (Core.dadd a b) = _
    rw [Core.val64_dadd, ea, eb, h1]
  have := own_rnd_of_round hv (Int.le_refl _) h2
  rw [h3, own_pow0] at this
  unfold own_zv; rw [ea, eb]; exact this
theorem own_zv_dneg (a : UInt64) : own_zv (Core.dneg a) = -own_zv a := by
  unfold own_zv; rw [Core.val64_dneg, Core.zval_negate]
theorem own_fin_dneg {a : UInt64} (ha : Core.DFin a) : Core.DFin (Core.dneg a) := by
  obtain ⟨s, c, q, ea⟩ := ha
  exact ⟨!s, c, q, by rw [Core.val64_dneg, ea]; rfl⟩
theorem own_dneg_zv {a : UInt64} (ha : Core.DFin a) : Core.DFin (FP.dneg a) ∧ own_zv (FP.dneg a) = -own_zv a := by
  rw [FP.dneg_core ha.notNaN]; exact ⟨own_fin_dneg ha, own_zv_dneg a⟩
theorem own_dsub_rnd {a b : UInt64} (ha : Core.DFin a) (hb : Core.DFin b) : own_rnd (own_zv a - own_zv b) 1 (FP.dsub a b) := by
  have h := own_dadd_rnd ha (own_fin_dneg hb)
  rw [own_zv_dneg] at h
  have e : FP.dsub a b = FP.dadd a (Core.dneg b) := Core.dsub_eq a b
  rw [e, Int.sub_eq_add_neg]; exact h
theorem own_dmul_rnd {a b : UInt64} (ha : Core.DFin a) (hb : Core.DFin b) : own_rnd (own_zv a * own_zv b) own_U (FP.dmul a b) := by
  obtain ⟨s, c, q, ea⟩ := ha
  obtain ⟨t, d, r, eb⟩ := hb
  have fa := Core.val64_fits a; have fb := Core.val64_fits b
  rw [ea] at fa; rw [eb] at fb
  obtain ⟨h1, h2, h3⟩ := Core.product_units fa fb
  have hv : Core.val64 (FP.dmul a b) = Core.round Core.b64 (.fin (s != t) (c * d) (q + r)) := by
    show Core.val64 (Core.dmul a b) = _
    rw [Core.val64_dmul, ea, eb, h1]
  have hq := Core.qmin_neg Core.good_b64
  have := own_rnd_of_round (e0 := 2 * Core.b64.qmin) hv (by omega) h2
  rw [h3, Core.signed_xor, show Core.b64.qmin - 2 * Core.b64.qmin = -Core.b64.qmin by omega, Core.pow_qmin64] at this
  unfold own_zv; rw [ea, eb]; exact this
theorem own_ddiv_rnd {a b : UInt64} (ha : Core.DFin a) (hb : Core.DFin b) (hz : own_zv b ≠ 0) : own_rnd (if 0 < own_zv b then own_zv a * own_U else -(own_zv a * own_U)) (own_zv b).natAbs (FP.ddiv a b) := by
  obtain ⟨s, c, q, ea⟩ := ha
  obtain ⟨t, d, r, eb⟩ := hb
  have fa := Core.val64_fits a; have fb := Core.val64_fits b
  rw [ea] at fa; rw [eb] at fb
  have hq1 := fa.2.1; have hq2 := fb.2.1
  have hqm := Core.qmin_neg Core.good_b64
  have zb : own_zv b = Core.signed t (Core.inUnits d r Core.b64.qmin) := by unfold own_zv; rw [eb]; rfl
  have za : own_zv a = Core.signed s (Core.inUnits c q Core.b64.qmin) := by unfold own_zv; rw [ea]; rfl
  have d0 : d ≠ 0 := fun h => hz (by rw [zb, h]; unfold Core.inUnits; rw [Nat.zero_mul]; exact Core.signed_zero t)
  have hB : 0 < Core.inUnits d r Core.b64.qmin := Nat.mul_pos (Nat.pos_of_ne_zero d0) (Nat.two_pow_pos _)
  have hv : Core.val64 (FP.ddiv a b) = Core.roundRatio Core.b64 (s != t) c d (q - r) := by
    show Core.val64 (Core.ddiv a b) = _
    rw [Core.val64_ddiv, ea, eb]; show (if d = 0 then _ else _) = _; rw [if_neg d0]
  have e1 : Core.inUnits c (q - r) (Core.b64.qmin - (r - Core.b64.qmin)) = Core.inUnits c q Core.b64.qmin * Core.one64 := by
    unfold Core.inUnits
    rw [← Core.pow_qmin64, Nat.mul_assoc, ← Nat.pow_add, show (q - r - (Core.b64.qmin - (r - Core.b64.qmin))).toNat = (q - Core.b64.qmin).toNat + (-Core.b64.qmin).toNat by omega]
  have e2 : ∀ v : Nat, v * 2 ^ (Core.b64.qmin - (Core.b64.qmin - (r - Core.b64.qmin))).toNat * d = v * Core.inUnits d r Core.b64.qmin := fun v => by
    unfold Core.inUnits
    rw [show Core.b64.qmin - (Core.b64.qmin - (r - Core.b64.qmin)) = r - Core.b64.qmin by omega, Nat.mul_assoc, Nat.mul_comm (2 ^ _) d]
  have hle : ∀ V : Core.Datum, Core.fits Core.b64 V → V ≠ .nan → Core.inUnits c q Core.b64.qmin * Core.one64 ≤ Core.zmag Core.b64 V * Core.inUnits d r Core.b64.qmin → Core.zmag Core.b64 (Core.roundRatio Core.b64 (s != t) c d (q - r)) ≤ Core.zmag Core.b64 V := fun V hV hn h =>
    Core.zmag_roundRatio_le Core.good_b64 (e0 := Core.b64.qmin - (r - Core.b64.qmin)) (Nat.pos_of_ne_zero d0) hV hn (by omega) (by omega) (by rw [e1, e2]; exact h)
  have hge : ∀ V : Core.Datum, Core.fits Core.b64 V → V ≠ .nan → Core.zmag Core.b64 V * Core.inUnits d r Core.b64.qmin ≤ Core.inUnits c q Core.b64.qmin * Core.one64 → Core.zmag Core.b64 V ≤ Core.zmag Core.b64 (Core.roundRatio Core.b64 (s != t) c d (q - r)) := fun V hV hn h =>
    Core.zmag_roundRatio_ge Core.good_b64 (e0 := Core.b64.qmin - (r - Core.b64.qmin)) (Nat.pos_of_ne_zero d0) hV (by omega) (by omega) (by rw [e1, e2]; exact h)
  have zr : own_zv (FP.ddiv a b) = Core.signed (s != t) (Core.zmag Core.b64 (Core.roundRatio Core.b64 (s != t) c d (q - r))) := by
    unfold own_zv; rw [hv]; unfold Core.zval; rw [Core.sgn_roundRatio]
  have hN : (if 0 < own_zv b then own_zv a * own_U else -(own_zv a * own_U)) = Core.signed (s != t) (Core.inUnits c q Core.b64.qmin * Core.one64) := by
    rw [zb, za, ← Core.signed_mul]
    cases s <;> cases t <;> simp only [Core.signed, if_true, if_false, Bool.false_eq_true, bne_self_eq_false, Bool.true_bne, Bool.false_bne, Bool.not_false, Bool.not_true] <;> split <;> omega
  have hD : ((own_zv b).natAbs : Int) = (Core.inUnits d r Core.b64.qmin : Nat) := by rw [zb, Core.natAbs_signed]
  have hzz : ∀ v : Nat, v * Core.inUnits d r Core.b64.qmin = 0 → v = 0 := fun v h => by rcases Nat.mul_eq_zero.mp h with h | h <;> omega
  rw [hN, hD]
  refine ⟨by rw [hv]; exact Core.roundRatio_ne_nan _ _ _ _ _, fun V hV h => ?_, fun V hV h => ?_⟩
  all_goals
    have h1 := hle _ (Core.val64_fits V) hV; have h2 := hge _ (Core.val64_fits V) hV; have h3 := hzz (Core.zmag Core.b64 (Core.val64 V))
    rw [zr]
    rw [show own_zv V = Core.signed (Core.sgn (Core.val64 V)) (Core.zmag Core.b64 (Core.val64 V)) from rfl] at h ⊢
    rw [← Core.signed_mul] at h
    generalize Core.zmag Core.b64 (Core.val64 V) * Core.inUnits d r Core.b64.qmin = vP at *
    generalize Core.inUnits c q Core.b64.qmin * Core.one64 = A at *
    generalize Core.sgn (Core.val64 V) = tV at *
    generalize (s != t) = st at *
    cases st <;> cases tV <;> simp only [Core.signed, if_true, Bool.false_eq_true, if_false] at h ⊢
    all_goals first
      | omega
      | (have := h1 (by omega); omega)
      | (have := h2 (by omega); omega)
      | (have := h1 (by omega); have := h3 (by omega); omega)
      | (have := h2 (by omega); have := h3 (by omega); omega)
/-- numbers of 53 digits are doubles -/
theorem own_rep (c : Int) (j : Nat) (hc : c.natAbs < 2 ^ 53) (hj : j ≤ 2045) : ∃ V, Core.DFin V ∧ own_zv V = c * ((2 ^ j : Nat) : Int) := by
  have hq1 : Core.b64.qmin = -1074 := Core.qmin_b64
  have hq2 : Core.b64.qmax = 971 := by decide
  obtain ⟨c', q', h1, h2⟩ := Core.round_exact Core.good_b64 (decide (c < 0)) (c := c.natAbs) (q := Core.b64.qmin + j) hc (by omega) (by omega)
  have hv : Core.val64 (Core.of64 (Core.round Core.b64 (.fin (decide (c < 0)) c.natAbs (Core.b64.qmin + j)))) = .fin (decide (c < 0)) c' q' := by
    rw [Core.val64_of64 (Core.round_fits Core.good_b64 _), h1]
  refine ⟨_, ⟨_, _, _, hv⟩, ?_⟩
  unfold own_zv; rw [hv]
  show Core.signed (decide (c < 0)) (Core.inUnits c' q' Core.b64.qmin) = _
  rw [h2]; unfold Core.inUnits
  rw [Core.signed_mul, show (Core.b64.qmin + (j : Int) - Core.b64.qmin).toNat = j by omega]
  congr 1
  by_cases h : c < 0
  · simp only [Core.signed, h, decide_true, if_true]; omega
  · simp only [Core.signed, h, decide_false, Bool.false_eq_true, if_false]; omega
theorem own_zv_lt {a : UInt64} (h : Core.DFin a) : (own_zv a).natAbs < Core.b64.tails * 2 ^ (Core.b64.exps - 2) := by
  have := Core.DFin.zval_lt h
  unfold own_zv Core.zval; rw [Core.natAbs_signed]; exact this
theorem own_fin_of {r V : UInt64} (hr : Core.val64 r ≠ .nan) (hV : Core.DFin V) (h : (own_zv r).natAbs ≤ (own_zv V).natAbs) : Core.DFin r := by
  cases e : Core.val64 r with
  | nan => exact absurd e hr
  | inf s =>
    have h1 := own_zv_lt hV
    have h2 : (own_zv r).natAbs = Core.b64.tails * 2 ^ (Core.b64.exps - 2) := by unfold own_zv Core.zval; rw [Core.natAbs_signed, e]; rfl
    omega
  | fin s c q => exact ⟨s, c, q, e⟩
/-- what is representable is not rounded -/
theorem own_exactV {N D : Int} {r V : UInt64} (h : own_rnd N D r) (hV : Core.DFin V) (e : own_zv V * D = N) : Core.DFin r ∧ own_zv r = own_zv V := by
  have h1 := h.2.1 V hV.ne_nan (by omega)
  have h2 := h.2.2 V hV.ne_nan (by omega)
  have h3 : own_zv r = own_zv V := by omega
  exact ⟨own_fin_of h.1 hV (by rw [h3]; exact Nat.le_refl _), h3⟩
theorem own_exact {N D : Int} {r : UInt64} (h : own_rnd N D r) (c : Int) (j : Nat) (hc : c.natAbs < 2 ^ 53) (hj : j ≤ 2045) (e : c * ((2 ^ j : Nat) : Int) * D = N) : Core.DFin r ∧ own_zv r = c * ((2 ^ j : Nat) : Int) := by
  obtain ⟨V, f, z⟩ := own_rep c j hc hj
  rw [← z] at e ⊢
  exact own_exactV h f e
/-! the order -/
theorem own_dcmp {a b : UInt64} (ha : Core.val64 a ≠ .nan) (hb : Core.val64 b ≠ .nan) : FP.dcmp a b = some (compare (own_zv a) (own_zv b)) := Core.dcmp_zval ha hb
theorem own_cmpv {a b : UInt64} (ha : Core.val64 a ≠ .nan) (hb : Core.val64 b ≠ .nan) (o : CmpOp) : cmpValue (FP.dcmp a b) o = if own_zv a < own_zv b then -1 else if own_zv a = own_zv b then 0 else 1 := by
  rw [own_dcmp ha hb, Core.compare_ite]
  by_cases h1 : own_zv a < own_zv b
  · simp only [h1, if_true]; cases o <;> rfl
  · by_cases h2 : own_zv a = own_zv b
    · simp only [h2, Int.lt_irrefl, if_true, if_false]; cases o <;> rfl
    · simp only [h1, h2, if_false]; cases o <;> rfl
theorem own_cmp_le {a b : UInt64} (ha : Core.val64 a ≠ .nan) (hb : Core.val64 b ≠ .nan) (h : own_zv a ≤ own_zv b) (o : CmpOp) : ¬ ((0 : Int32) < cmpValue (FP.dcmp a b) o) := by
  rw [own_cmpv ha hb]
  by_cases h1 : own_zv a < own_zv b
  · rw [if_pos h1]; decide
  · rw [if_neg h1, if_pos (by omega)]; decide
theorem own_cmp_ge {a b : UInt64} (ha : Core.val64 a ≠ .nan) (hb : Core.val64 b ≠ .nan) (h : own_zv b ≤ own_zv a) (o : CmpOp) : ¬ (cmpValue (FP.dcmp a b) o < (0 : Int32)) := by
  rw [own_cmpv ha hb, if_neg (by omega)]
  by_cases h1 : own_zv a = own_zv b
  · rw [if_pos h1]; decide
  · rw [if_neg h1]; decide
theorem own_cmp_lt {a b : UInt64} (ha : Core.val64 a ≠ .nan) (hb : Core.val64 b ≠ .nan) (h : own_zv a < own_zv b) (o : CmpOp) : cmpValue (FP.dcmp a b) o < (0 : Int32) := by
  rw [own_cmpv ha hb, if_pos h]; decide
theorem own_cmp_gt {a b : UInt64} (ha : Core.val64 a ≠ .nan) (hb : Core.val64 b ≠ .nan) (h : own_zv b < own_zv a) (o : CmpOp) : (0 : Int32) < cmpValue (FP.dcmp a b) o := by
  rw [own_cmpv ha hb, if_neg (by omega), if_neg (by omega)]; decide
theorem own_cmp_eq {a b : UInt64} (ha : Core.val64 a ≠ .nan) (hb : Core.val64 b ≠ .nan) (h : own_zv a = own_zv b) (o : CmpOp) : cmpValue (FP.dcmp a b) o = (0 : Int32) := by
  rw [own_cmpv ha hb, if_neg (by omega), if_pos h]
theorem own_cmp_ne {a b : UInt64} (ha : Core.val64 a ≠ .nan) (hb : Core.val64 b ≠ .nan) (h : own_zv a ≠ own_zv b) (o : CmpOp) : ¬ (cmpValue (FP.dcmp a b) o = (0 : Int32)) := by
  rw [own_cmpv ha hb]
  by_cases h1 : own_zv a < own_zv b
  · rw [if_pos h1]; decide
  · rw [if_neg h1, if_neg h]; decide
/-! no NaN -/
theorem own_nn {a : UInt64} (h : Core.val64 a ≠ .nan) : NoNaN64 a := noNaN64_no.mpr ((Core.notNaN_iff a).mpr h)
theorem own_rnd_nn {N D : Int} {r : UInt64} (h : own_rnd N D r) : NoNaN64 r := own_nn h.1
theorem own_fin_nn {a : UInt64} (h : Core.DFin a) : NoNaN64 a := own_nn h.ne_nan
/-! whole numbers -/
theorem own_i2d (x : Int32) : Core.DFin (FP.i2d x) ∧ own_zv (FP.i2d x) = x.toInt * own_U := ⟨Core.i2d_fin x, Core.DInt_zval (Core.i2d_int x)⟩
theorem own_l2d {x : Int64} (h : x.toInt.natAbs ≤ 2 ^ 53) : Core.DFin (FP.l2d x) ∧ own_zv (FP.l2d x) = x.toInt * own_U := ⟨Core.l2d_fin x, Core.DInt_zval (Core.l2d_int h)⟩
theorem own_U_eq : own_U = ((2 ^ 1074 : Nat) : Int) := rfl
end OwnFloat
section OwnFloat2
open Jvm.FP Jvm.FP.Core
theorem own_lt_U {i j : Int} : i * own_U < j * own_U ↔ i < j := by
  have h := own_U_pos
  constructor
  · intro q; exact Int.lt_of_mul_lt_mul_right q (Int.le_of_lt h)
  · intro q; exact Int.mul_lt_mul_of_pos_right q h
theorem own_eq_U {i j : Int} : i * own_U = j * own_U ↔ i = j := by
  have h := own_U_pos
  constructor
  · intro q; exact Int.eq_of_mul_eq_mul_right (by omega) q
  · intro q; rw [q]
/-- a is the whole number i -/
def own_is (i : Int) (a : UInt64) : Prop := Core.DFin a ∧ own_zv a = i * own_U
theorem own_is_i2d (x : Int32) : own_is x.toInt (FP.i2d x) := own_i2d x
theorem own_is_neg0 : own_is 0 (9223372036854775808 : UInt64) := ⟨by rw [Core.fin_bits]; decide, by decide +kernel⟩
theorem own_is_0 : own_is 0 (0 : UInt64) := ⟨by rw [Core.fin_bits]; decide, by decide +kernel⟩
theorem own_cmpU {a b : UInt64} {i j : Int} (ha : own_is i a) (hb : own_is j b) (o : CmpOp) : cmpValue (FP.dcmp a b) o = if i < j then -1 else if i = j then 0 else 1 := by
  rw [own_cmpv ha.1.ne_nan hb.1.ne_nan, ha.2, hb.2]; simp only [own_lt_U, own_eq_U]
end OwnFloat2
section OwnFloat3
open Jvm.FP Jvm.FP.Core
theorem own_is_dneg {i : Int} {a : UInt64} (h : own_is i a) : own_is (-i) (FP.dneg a) := by
  obtain ⟨f, z⟩ := own_dneg_zv h.1
  exact ⟨f, by rw [z, h.2, Int.neg_mul]⟩
theorem own_self {a : UInt64} (h : Core.DFin a) (o : CmpOp) : cmpValue (FP.dcmp a a) o = (0 : Int32) := own_cmp_eq h.ne_nan h.ne_nan rfl o
/-- x - x is nought -/
theorem own_dsub_self {a : UInt64} (h : Core.DFin a) : FP.dsub a a = 0 := by
  obtain ⟨s, c, q, e⟩ := h
  exact Core.dsub_self e
end OwnFloat3
section OwnFloat4
open Jvm.FP Jvm.FP.Core
theorem own_rep_le (c : Int) (j : Nat) (hc : c.natAbs ≤ 2 ^ 53) (hj : j ≤ 2044) : ∃ V, Core.DFin V ∧ own_zv V = c * ((2 ^ j : Nat) : Int) := by
  by_cases h : c.natAbs < 2 ^ 53
  · exact own_rep c j h (by omega)
  · obtain ⟨V, f, z⟩ := own_rep (c / 2) (j + 1) (by omega) (by omega)
    refine ⟨V, f, ?_⟩
    rw [z, Nat.pow_succ, Int.natCast_mul]
    have : c = c / 2 * 2 := by omega
    rw [Int.mul_comm ((2 ^ j : Nat) : Int), ← Int.mul_assoc]
    have e : c / 2 * ((2 : Nat) : Int) = c := by omega
    rw [e]
theorem own_rnd_scale {N D k : Int} {r : UInt64} (hk : 0 < k) (h : own_rnd (N * k) (D * k) r) : own_rnd N D r := by
  refine ⟨h.1, fun V hV q => h.2.1 V hV ?_, fun V hV q => h.2.2 V hV ?_⟩
  · rw [← Int.mul_assoc]; exact Int.mul_le_mul_of_nonneg_right q (Int.le_of_lt hk)
  · rw [← Int.mul_assoc]; exact Int.mul_le_mul_of_nonneg_right q (Int.le_of_lt hk)
/-- the relative error, one unit in the last place at the most -/
theorem own_rel {N D : Int} {r : UInt64} (h : own_rnd N D r) (hD : 0 < D) (lo : 4503599627370496 * D ≤ N) (hi : N / D < ((2 ^ 2096 : Nat) : Int)) :
    Core.DFin r ∧ 4503599627370496 * (own_zv r * D - N) ≤ N ∧ 4503599627370496 * (N - own_zv r * D) ≤ N := by
  have hM : 4503599627370496 ≤ N / D := Int.le_ediv_of_mul_le hD lo
  obtain ⟨m, hm⟩ : ∃ m : Nat, N / D = (m : Int) := ⟨(N / D).toNat, by omega⟩
  have hN := Int.mul_ediv_add_emod N D
  have hr0 := Int.emod_nonneg N (show D ≠ 0 by omega)
  have hr1 := Int.emod_lt_of_pos N hD
  have m0 : m ≠ 0 := by omega
  have l1 : 2 ^ m.log2 ≤ m := Nat.log2_self_le m0
  have l2 : m < 2 ^ (m.log2 + 1) := Nat.lt_log2_self
  have l3 : 52 ≤ m.log2 := by
    apply Nat.le_of_lt_succ
    apply (Nat.pow_lt_pow_iff_right (by decide : 1 < 2)).mp
    exact Nat.lt_of_le_of_lt (show 2 ^ 52 ≤ m by omega) l2
  have l4 : m.log2 < 2096 := by
    apply (Nat.pow_lt_pow_iff_right (by decide : 1 < 2)).mp
    exact Nat.lt_of_le_of_lt l1 (by rw [hm] at hi; exact Int.ofNat_lt.mp hi)
  obtain ⟨e, he⟩ : ∃ e, m.log2 = e + 52 := ⟨m.log2 - 52, by omega⟩
  have hg : 0 < 2 ^ e := Nat.two_pow_pos e
  have p1 : 2 ^ m.log2 = 2 ^ e * 4503599627370496 := by rw [he, Nat.pow_add]
  have p2 : 2 ^ (m.log2 + 1) = 2 ^ e * 9007199254740992 := by rw [he, Nat.pow_add, Nat.pow_add]; omega
  have dm := Nat.div_add_mod m (2 ^ e)
  have ml := Nat.mod_lt m hg
  have k1 : 4503599627370496 ≤ m / 2 ^ e := (Nat.le_div_iff_mul_le hg).mpr (by rw [Nat.mul_comm]; omega)
  have k2 : m / 2 ^ e < 9007199254740992 := (Nat.div_lt_iff_lt_mul hg).mpr (by rw [Nat.mul_comm]; omega)
  obtain ⟨V1, f1, z1⟩ := own_rep_le ((m / 2 ^ e : Nat) : Int) e (by omega) (by omega)
  obtain ⟨V2, f2, z2⟩ := own_rep_le ((m / 2 ^ e + 1 : Nat) : Int) e (by omega) (by omega)
  have a1 : ((m / 2 ^ e : Nat) : Int) * ((2 ^ e : Nat) : Int) ≤ (m : Int) := by rw [← Int.natCast_mul]; exact Int.ofNat_le.mpr (Nat.div_mul_le_self _ _)
  have a2 : (m : Int) + 1 ≤ ((m / 2 ^ e + 1 : Nat) : Int) * ((2 ^ e : Nat) : Int) := by
    rw [← Int.natCast_mul]; have : m + 1 ≤ (m / 2 ^ e + 1) * 2 ^ e := by rw [Nat.add_mul, Nat.one_mul, Nat.mul_comm]; omega
    exact Int.ofNat_le.mpr this
  have a3 : ((m / 2 ^ e + 1 : Nat) : Int) * ((2 ^ e : Nat) : Int) = ((m / 2 ^ e : Nat) : Int) * ((2 ^ e : Nat) : Int) + ((2 ^ e : Nat) : Int) := by
    rw [Int.natCast_add, Int.add_mul]; simp
  have a4 : 4503599627370496 * ((2 ^ e : Nat) : Int) ≤ (m : Int) := by
    have : 2 ^ e * 4503599627370496 ≤ m := by omega
    omega
  have b1 : own_zv V1 * D ≤ N := by
    rw [z1]; have := Int.mul_le_mul_of_nonneg_right a1 (Int.le_of_lt hD); rw [hm, Int.mul_comm] at hN; omega
  have b2 : N ≤ own_zv V2 * D := by
    rw [z2]; have := Int.mul_le_mul_of_nonneg_right a2 (Int.le_of_lt hD); rw [Int.add_mul, Int.one_mul] at this; rw [hm, Int.mul_comm] at hN; omega
  have c1 := h.2.1 V1 f1.ne_nan b1
  have c2 := h.2.2 V2 f2.ne_nan b2
  rw [z1] at c1 b1; rw [z2] at c2 b2
  have d1 := Int.mul_le_mul_of_nonneg_right c1 (Int.le_of_lt hD)
  have d2 := Int.mul_le_mul_of_nonneg_right c2 (Int.le_of_lt hD)
  have d3 := Int.mul_le_mul_of_nonneg_right a4 (Int.le_of_lt hD)
  rw [a3, Int.add_mul] at d2 b2
  have d4 : (m : Int) * D ≤ N := by rw [hm, Int.mul_comm] at hN; omega
  rw [Int.mul_assoc] at d3
  refine ⟨own_fin_of h.1 f2 ?_, by omega, by omega⟩
  rw [z2]
  have s0 : 0 ≤ ((m / 2 ^ e : Nat) : Int) * ((2 ^ e : Nat) : Int) := Int.mul_nonneg (Int.natCast_nonneg _) (Int.natCast_nonneg _)
  omega
theorem own_is_mul {i j : Int} {a b : UInt64} (ha : own_is i a) (hb : own_is j b) (h : (i * j).natAbs < 2 ^ 53) : own_is (i * j) (FP.dmul a b) := by
  refine own_exact (own_dmul_rnd ha.1 hb.1) (i * j) 1074 h (by decide) ?_
  rw [ha.2, hb.2, ← own_U_eq]; simp only [Int.mul_assoc, Int.mul_comm, Int.mul_left_comm]
theorem own_is_add {i j : Int} {a b : UInt64} (ha : own_is i a) (hb : own_is j b) (h : (i + j).natAbs < 2 ^ 53) : own_is (i + j) (FP.dadd a b) := by
  refine own_exact (own_dadd_rnd ha.1 hb.1) (i + j) 1074 h (by decide) ?_
  rw [ha.2, hb.2, ← own_U_eq, Int.mul_one, Int.add_mul]
theorem own_is_sub {i j : Int} {a b : UInt64} (ha : own_is i a) (hb : own_is j b) (h : (i - j).natAbs < 2 ^ 53) : own_is (i - j) (FP.dsub a b) := by
  refine own_exact (own_dsub_rnd ha.1 hb.1) (i - j) 1074 h (by decide) ?_
  rw [ha.2, hb.2, ← own_U_eq, Int.mul_one, Int.sub_mul]
theorem own_is_l2d {x : Int64} (h : x.toInt.natAbs ≤ 2 ^ 53) : own_is x.toInt (FP.l2d x) := own_l2d h
/-- the quotient of two whole numbers, the divisor positive -/
theorem own_is_div_rnd {i j : Int} {a b : UInt64} (ha : own_is i a) (hb : own_is j b) (hj : 0 < j) : own_rnd (i * own_U) j (FP.ddiv a b) := by
  have hU := own_U_pos
  have hz : 0 < own_zv b := by rw [hb.2]; exact Int.mul_pos hj hU
  have h := own_ddiv_rnd ha.1 hb.1 (by omega)
  rw [if_pos hz, Int.natAbs_of_nonneg (Int.le_of_lt hz), ha.2, hb.2] at h
  exact own_rnd_scale hU h
end OwnFloat4
section OwnFloat5
open Jvm.FP Jvm.FP.Core
/-- a is c * 2^(j - 1074) -/
def own_at (c : Int) (j : Nat) (a : UInt64) : Prop := Core.DFin a ∧ own_zv a = c * ((2 ^ j : Nat) : Int)
theorem own_at_is {i : Int} {a : UInt64} (h : own_is i a) : own_at i 1074 a := h
theorem own_at_add {c1 c2 : Int} {j : Nat} {a b : UInt64} (ha : own_at c1 j a) (hb : own_at c2 j b) (h : (c1 + c2).natAbs < 2 ^ 53) (hj : j ≤ 2045) : own_at (c1 + c2) j (FP.dadd a b) := by
  refine own_exact (own_dadd_rnd ha.1 hb.1) (c1 + c2) j h hj ?_
  rw [ha.2, hb.2, Int.mul_one, Int.add_mul]
theorem own_at_sub {c1 c2 : Int} {j : Nat} {a b : UInt64} (ha : own_at c1 j a) (hb : own_at c2 j b) (h : (c1 - c2).natAbs < 2 ^ 53) (hj : j ≤ 2045) : own_at (c1 - c2) j (FP.dsub a b) := by
  refine own_exact (own_dsub_rnd ha.1 hb.1) (c1 - c2) j h hj ?_
  rw [ha.2, hb.2, Int.mul_one, Int.sub_mul]
theorem own_at_mul {c1 c2 : Int} {j1 j2 : Nat} {a b : UInt64} (ha : own_at c1 j1 a) (hb : own_at c2 j2 b) (j : Nat) (e : j1 + j2 = j + 1074) (h : (c1 * c2).natAbs < 2 ^ 53) (hj : j ≤ 2045) : own_at (c1 * c2) j (FP.dmul a b) := by
  refine own_exact (own_dmul_rnd ha.1 hb.1) (c1 * c2) j h hj ?_
  have p : ((2 ^ j : Nat) : Int) * own_U = ((2 ^ j1 : Nat) : Int) * ((2 ^ j2 : Nat) : Int) := by rw [own_U_eq, ← Int.natCast_mul, ← Int.natCast_mul, ← Nat.pow_add, ← Nat.pow_add, e]
  rw [ha.2, hb.2, Int.mul_assoc (c1 * c2), p]; simp only [Int.mul_assoc, Int.mul_comm, Int.mul_left_comm]
/-- a quotient that is exact -/
theorem own_at_div {c1 c2 c : Int} {j1 j2 : Nat} {a b : UInt64} (ha : own_at c1 j1 a) (hb : own_at c2 j2 b) (hc : 0 < c2) (j : Nat) (e : c * c2 * ((2 ^ (j + j2) : Nat) : Int) = c1 * ((2 ^ (j1 + 1074) : Nat) : Int)) (h : c.natAbs < 2 ^ 53) (hj : j ≤ 2045) : own_at c j (FP.ddiv a b) := by
  have hz : 0 < own_zv b := by rw [hb.2]; exact Int.mul_pos hc (Int.natCast_pos.mpr (Nat.two_pow_pos _))
  have hr := own_ddiv_rnd ha.1 hb.1 (by omega)
  rw [if_pos hz, Int.natAbs_of_nonneg (Int.le_of_lt hz)] at hr
  refine own_exact hr c j h hj ?_
  rw [ha.2, hb.2, own_U_eq]
  rw [Nat.pow_add, Nat.pow_add, Int.natCast_mul, Int.natCast_mul] at e
  have l : c * ((2 ^ j : Nat) : Int) * (c2 * ((2 ^ j2 : Nat) : Int)) = c * c2 * (((2 ^ j : Nat) : Int) * ((2 ^ j2 : Nat) : Int)) := by simp only [Int.mul_assoc, Int.mul_comm, Int.mul_left_comm]
  rw [l, e, Int.mul_assoc]
theorem own_at_up {c : Int} {j i : Nat} {a : UInt64} (h : own_at c (j + i) a) : own_at (c * ((2 ^ i : Nat) : Int)) j a :=
  ⟨h.1, by rw [h.2, Nat.pow_add, Int.natCast_mul, Int.mul_assoc, Int.mul_comm ((2 ^ i : Nat) : Int)]⟩
theorem own_at_dn {c : Int} {j i : Nat} {a : UInt64} (h : own_at (c * ((2 ^ i : Nat) : Int)) j a) : own_at c (j + i) a :=
  ⟨h.1, by rw [h.2, Nat.pow_add, Int.natCast_mul, Int.mul_assoc, Int.mul_comm ((2 ^ i : Nat) : Int)]⟩
theorem own_at_eq {c : Int} {j : Nat} {a b : UInt64} (ha : own_at c j a) (hb : own_at c j b) (o : CmpOp) : cmpValue (FP.dcmp a b) o = (0 : Int32) := own_cmp_eq ha.1.ne_nan hb.1.ne_nan (by rw [ha.2, hb.2]) o
theorem own_at_nn {c : Int} {j : Nat} {a : UInt64} (h : own_at c j a) : NoNaN64 a := own_fin_nn h.1
end OwnFloat5
section OwnFloat6
open Jvm.FP Jvm.FP.Core
theorem own_is_div {k j : Int} {a b : UInt64} (ha : own_is (k * j) a) (hb : own_is j b) (hj : j ≠ 0) (h : k.natAbs < 2 ^ 53) : own_is k (FP.ddiv a b) := by
  have hU := own_U_pos
  have hz : own_zv b ≠ 0 := by rw [hb.2]; intro q; rcases Int.mul_eq_zero.mp q with q | q <;> omega
  refine own_exact (own_ddiv_rnd ha.1 hb.1 hz) k 1074 h (by decide) ?_
  rw [← own_U_eq]
  by_cases q : 0 < own_zv b
  · rw [if_pos q, Int.natAbs_of_nonneg (Int.le_of_lt q), ha.2, hb.2]; simp only [Int.mul_assoc, Int.mul_comm, Int.mul_left_comm]
  · rw [if_neg q]
    have e : ((own_zv b).natAbs : Int) = -own_zv b := by omega
    rw [e, ha.2, hb.2, Int.mul_neg]; congr 1; simp only [Int.mul_assoc, Int.mul_comm, Int.mul_left_comm]
theorem own_fin_between {r V1 V2 : UInt64} (hr : Core.val64 r ≠ .nan) (h1 : Core.DFin V1) (h2 : Core.DFin V2) (a : own_zv V1 ≤ own_zv r) (b : own_zv r ≤ own_zv V2) : Core.DFin r := by
  by_cases q : (own_zv r).natAbs ≤ (own_zv V1).natAbs
  · exact own_fin_of hr h1 q
  · exact own_fin_of hr h2 (by omega)
/-- a quotient by a whole number, of any dividend -/
theorem own_div_rnd {j : Int} {a b : UInt64} (ha : Core.DFin a) (hb : own_is j b) (hj : 0 < j) : own_rnd (own_zv a) j (FP.ddiv a b) := by
  have hU := own_U_pos
  have hz : 0 < own_zv b := by rw [hb.2]; exact Int.mul_pos hj hU
  have h := own_ddiv_rnd ha hb.1 (by omega)
  rw [if_pos hz, Int.natAbs_of_nonneg (Int.le_of_lt hz), hb.2] at h
  exact own_rnd_scale hU h
theorem own_rep_is (k : Int) (h : k.natAbs < 2 ^ 53) : ∃ V, own_is k V := own_rep k 1074 h (by decide)
end OwnFloat6
section OwnFloat7
open Jvm.FP Jvm.FP.Core
/-- one value, not nought: one pattern of bits -/
theorem own_bits {a b : UInt64} (ha : Core.DFin a) (hb : Core.DFin b) (e : own_zv a = own_zv b) (h : own_zv b ≠ 0) : a = b := by
  refine Core.eq_bits (fun q => h ?_) ?_
  · have := Core.DZero.zval q; exact this
  · show FP.dcmp a b = _
    rw [own_dcmp ha.ne_nan hb.ne_nan, e, Core.compare_self_int]
theorem own_at_bits {c : Int} {j : Nat} {a b : UInt64} (ha : own_at c j a) (hb : own_at c j b) (h : c ≠ 0) : a = b := by
  refine own_bits ha.1 hb.1 (by rw [ha.2, hb.2]) ?_
  rw [hb.2]; intro q
  rcases Int.mul_eq_zero.mp q with q | q
  · exact h q
  · have := Nat.two_pow_pos j; omega
theorem own_fin64 {a : UInt64} (h : Core.DFin a) : Fin64 a := fin64_core.mpr h
end OwnFloat7
section OwnFloat8
open Jvm.FP Jvm.FP.Core
/-- r's magnitude is A / B (units of 2^-1074), rounded to nearest -/
def own_rr (A B : Nat) (r : UInt64) : Prop := 0 < B ∧ ∃ s, Core.val64 r = Core.roundRatio Core.b64 s A B Core.b64.qmin
theorem own_mag {a : UInt64} : (own_zv a).natAbs = Core.zmag Core.b64 (Core.val64 a) := by unfold own_zv Core.zval; rw [Core.natAbs_signed]
theorem own_in0 (A : Nat) : Core.inUnits A Core.b64.qmin Core.b64.qmin = A := by unfold Core.inUnits; rw [own_pow0, Nat.mul_one]
theorem own_rr_mono {A1 B1 A2 B2 : Nat} {r1 r2 : UInt64} (h1 : own_rr A1 B1 r1) (h2 : own_rr A2 B2 r2) (f1 : Core.DFin r1) (f2 : Core.DFin r2) (h : A1 * B2 ≤ A2 * B1) : (own_zv r1).natAbs ≤ (own_zv r2).natAbs := by
  obtain ⟨b1, s1, e1⟩ := h1
  obtain ⟨b2, s2, e2⟩ := h2
  have n1 := f1.ne_nan; have n2 := f2.ne_nan
  rw [own_mag, own_mag]
  by_cases q1 : A1 ≤ Core.zmag Core.b64 (Core.val64 r2) * B1
  · have := Core.zmag_roundRatio_le Core.good_b64 (s := s1) (A := A1) (B := B1) (e := Core.b64.qmin) (e0 := Core.b64.qmin) b1 (Core.val64_fits r2) n2 (Int.le_refl _) (Int.le_refl _) (by rw [own_in0, own_pow0, Nat.mul_one]; exact q1)
    rw [← e1] at this; exact this
  · by_cases q2 : Core.zmag Core.b64 (Core.val64 r1) * B2 ≤ A2
    · have := Core.zmag_roundRatio_ge Core.good_b64 (s := s2) (A := A2) (B := B2) (e := Core.b64.qmin) (e0 := Core.b64.qmin) b2 (Core.val64_fits r1) (Int.le_refl _) (Int.le_refl _) (by rw [own_in0, own_pow0, Nat.mul_one]; exact q2)
      rw [← e2] at this; exact this
    · apply Nat.le_of_not_lt; intro hlt
      obtain ⟨t1, c1, x1, v1⟩ := f1
      obtain ⟨t2, c2, x2, v2⟩ := f2
      have g1 := Core.val64_fits r1; rw [v1] at g1
      have g2 := Core.val64_fits r2; rw [v2] at g2
      have d1 := Core.roundRatio_nearest Core.good_b64 (e0 := Core.b64.qmin) b1 (e1.symm.trans v1) g2.1 g2.2.1 (Int.le_refl _) (Int.le_refl _)
      have d2 := Core.roundRatio_nearest Core.good_b64 (e0 := Core.b64.qmin) b2 (e2.symm.trans v2) g1.1 g1.2.1 (Int.le_refl _) (Int.le_refl _)
      unfold Core.distance at d1 d2
      rw [own_in0] at d1 d2
      have z1 : Core.zmag Core.b64 (Core.val64 r1) = Core.inUnits c1 x1 Core.b64.qmin := by rw [v1]; rfl
      have z2 : Core.zmag Core.b64 (Core.val64 r2) = Core.inUnits c2 x2 Core.b64.qmin := by rw [v2]; rfl
      rw [← z1, ← z2] at d1 d2
      generalize hz1 : Core.zmag Core.b64 (Core.val64 r1) = Z1 at *
      generalize hz2 : Core.zmag Core.b64 (Core.val64 r2) = Z2 at *
      rw [← Int.natCast_mul, ← Int.natCast_mul] at d1 d2
      -- A1 < Z1 * B1 as well
      have k1 : A1 * B2 < Z1 * B1 * B2 := by
        have : A2 * B1 < Z1 * B2 * B1 := Nat.mul_lt_mul_of_pos_right (by omega) b1
        have e : Z1 * B2 * B1 = Z1 * B1 * B2 := by simp only [Nat.mul_assoc, Nat.mul_comm, Nat.mul_left_comm]
        omega
      have k2 : A1 < Z1 * B1 := Nat.lt_of_mul_lt_mul_right k1
      have k3 : Z2 * B1 * B2 < A2 * B1 := by
        have : Z2 * B1 * B2 < A1 * B2 := Nat.mul_lt_mul_of_pos_right (by omega) b2
        omega
      have k4 : Z2 * B2 < A2 := by
        have e : Z2 * B1 * B2 = Z2 * B2 * B1 := by simp only [Nat.mul_assoc, Nat.mul_comm, Nat.mul_left_comm]
        rw [e] at k3; exact Nat.lt_of_mul_lt_mul_right k3
      have m1 : (Z1 + Z2) * B1 ≤ 2 * A1 := by rw [Nat.add_mul]; omega
      have m2 : 2 * A2 ≤ (Z1 + Z2) * B2 := by rw [Nat.add_mul]; omega
      have m3 := Nat.mul_le_mul_right B2 m1
      have m4 := Nat.mul_le_mul_right B1 m2
      have e3 : (Z1 + Z2) * B1 * B2 = (Z1 + Z2) * B2 * B1 := by simp only [Nat.mul_assoc, Nat.mul_comm, Nat.mul_left_comm]
      have e4 : 2 * A1 * B2 = 2 * (A1 * B2) := Nat.mul_assoc _ _ _
      have e5 : 2 * A2 * B1 = 2 * (A2 * B1) := Nat.mul_assoc _ _ _
      have e6 : A1 * B2 = A2 * B1 := by omega
      have cg := Core.roundRatio_congr (f := Core.b64) (s := s1) (e := Core.b64.qmin) (e' := Core.b64.qmin) b1 b2 (by rw [own_pow0, Nat.mul_one, Nat.mul_one]; exact e6)
      have w1 := Core.zmag_roundRatio_le Core.good_b64 (s := s1) (A := A2) (B := B2) (e := Core.b64.qmin) (e0 := Core.b64.qmin) (V := Core.val64 r2) b2 (Core.val64_fits r2) n2 (Int.le_refl _) (Int.le_refl _)
      -- one sign or the other: the magnitudes are one
      have sg : Core.zmag Core.b64 (Core.roundRatio Core.b64 s1 A2 B2 Core.b64.qmin) = Core.zmag Core.b64 (Core.roundRatio Core.b64 s2 A2 B2 Core.b64.qmin) := by
        by_cases q : s1 = s2
        · rw [q]
        · have e : s2 = !s1 := by cases s1 <;> cases s2 <;> simp at q ⊢
          have ng := Core.negate_roundRatio Core.b64 s1 A2 B2 Core.b64.qmin
          rw [e, ← ng]
          cases Core.roundRatio Core.b64 s1 A2 B2 Core.b64.qmin <;> rfl
      rw [← cg, ← e1, ← e2, hz1, hz2] at sg
      omega
theorem own_rr_of_round {x : UInt64} {sg : Bool} {n : Nat} {e : Int} {A B : Nat} (hx : Core.val64 x = Core.round Core.b64 (.fin sg n e)) (hB : 0 < B) (h : n * B * 2 ^ (e - Core.b64.qmin).toNat = A * 1 * 2 ^ (Core.b64.qmin - e).toNat) : own_rr A B x :=
  ⟨hB, sg, hx.trans (Core.roundRatio_congr (f := Core.b64) (s := sg) (by decide) hB h)⟩
theorem own_rr_dmul {a b : UInt64} (ha : Core.DFin a) (hb : Core.DFin b) : own_rr ((own_zv a).natAbs * (own_zv b).natAbs) Core.one64 (FP.dmul a b) := by
  obtain ⟨s, c, q, ea⟩ := ha
  obtain ⟨t, d, r, eb⟩ := hb
  have fa := Core.val64_fits a; have fb := Core.val64_fits b
  rw [ea] at fa; rw [eb] at fb
  have h1 := fa.2.1; have h2 := fb.2.1
  have hq := Core.qmin_neg Core.good_b64
  have hv : Core.val64 (FP.dmul a b) = Core.round Core.b64 (.fin (s != t) (c * d) (q + r)) := by
    show Core.val64 (Core.dmul a b) = _
    rw [Core.val64_dmul, ea, eb]; rfl
  refine own_rr_of_round hv Core.one64_pos ?_
  rw [own_mag, own_mag, ea, eb]
  show _ = Core.inUnits c q Core.b64.qmin * Core.inUnits d r Core.b64.qmin * 1 * _
  unfold Core.inUnits
  rw [← Core.pow_qmin64, Nat.mul_one]
  have l : c * d * 2 ^ (-Core.b64.qmin).toNat * 2 ^ (q + r - Core.b64.qmin).toNat = c * d * 2 ^ ((-Core.b64.qmin).toNat + (q + r - Core.b64.qmin).toNat) := by rw [Nat.pow_add, Nat.mul_assoc (c * d)]
  have m : c * 2 ^ (q - Core.b64.qmin).toNat * (d * 2 ^ (r - Core.b64.qmin).toNat) * 2 ^ (Core.b64.qmin - (q + r)).toNat = c * d * 2 ^ ((q - Core.b64.qmin).toNat + (r - Core.b64.qmin).toNat + (Core.b64.qmin - (q + r)).toNat) := by
    rw [Nat.pow_add, Nat.pow_add]; simp only [Nat.mul_assoc, Nat.mul_comm, Nat.mul_left_comm]
  rw [l, m]; congr 2; omega
theorem own_rr_dadd {a b : UInt64} (ha : Core.DFin a) (hb : Core.DFin b) : own_rr (own_zv a + own_zv b).natAbs 1 (FP.dadd a b) := by
  obtain ⟨s, c, q, ea⟩ := ha
  obtain ⟨t, d, r, eb⟩ := hb
  have fa := Core.val64_fits a; have fb := Core.val64_fits b
  rw [ea] at fa; rw [eb] at fb
  obtain ⟨sg, n, e, h1, h2, h3⟩ := Core.sum_units fa fb
  have hv : Core.val64 (FP.dadd a b) = Core.round Core.b64 (.fin sg n e) := by
    show Core.val64 (Core.dadd a b) = _
    rw [Core.val64_dadd, ea, eb, h1]
  refine own_rr_of_round hv (by decide) ?_
  have z : (own_zv a + own_zv b).natAbs = Core.inUnits n e Core.b64.qmin := by
    unfold own_zv; rw [ea, eb, ← h3, Core.natAbs_signed]
  rw [z, Nat.mul_one, Nat.mul_one]
  unfold Core.inUnits
  rw [show (Core.b64.qmin - e).toNat = 0 by omega, Nat.pow_zero, Nat.mul_one]
theorem own_rr_ddiv {a b : UInt64} (ha : Core.DFin a) (hb : Core.DFin b) (hz : own_zv b ≠ 0) : own_rr ((own_zv a).natAbs * Core.one64) (own_zv b).natAbs (FP.ddiv a b) := by
  obtain ⟨s, c, q, ea⟩ := ha
  obtain ⟨t, d, r, eb⟩ := hb
  have fa := Core.val64_fits a; have fb := Core.val64_fits b
  rw [ea] at fa; rw [eb] at fb
  have h1 := fa.2.1; have h2 := fb.2.1
  have hq := Core.qmin_neg Core.good_b64
  have zb : own_zv b = Core.signed t (Core.inUnits d r Core.b64.qmin) := by unfold own_zv; rw [eb]; rfl
  have d0 : d ≠ 0 := fun h => hz (by rw [zb, h]; unfold Core.inUnits; rw [Nat.zero_mul]; exact Core.signed_zero t)
  have hv : Core.val64 (FP.ddiv a b) = Core.roundRatio Core.b64 (s != t) c d (q - r) := by
    show Core.val64 (Core.ddiv a b) = _
    rw [Core.val64_ddiv, ea, eb]; show (if d = 0 then _ else _) = _; rw [if_neg d0]
  refine ⟨by omega, s != t, hv.trans (Core.roundRatio_congr (Nat.pos_of_ne_zero d0) (by omega) ?_)⟩
  rw [own_mag, own_mag, ea, eb]
  show c * Core.inUnits d r Core.b64.qmin * _ = Core.inUnits c q Core.b64.qmin * Core.one64 * d * _
  unfold Core.inUnits
  rw [← Core.pow_qmin64]
  have l : c * (d * 2 ^ (r - Core.b64.qmin).toNat) * 2 ^ (q - r - Core.b64.qmin).toNat = c * d * 2 ^ ((r - Core.b64.qmin).toNat + (q - r - Core.b64.qmin).toNat) := by
    rw [Nat.pow_add]; simp only [Nat.mul_assoc, Nat.mul_comm, Nat.mul_left_comm]
  have m : c * 2 ^ (q - Core.b64.qmin).toNat * 2 ^ (-Core.b64.qmin).toNat * d * 2 ^ (Core.b64.qmin - (q - r)).toNat = c * d * 2 ^ ((q - Core.b64.qmin).toNat + (-Core.b64.qmin).toNat + (Core.b64.qmin - (q - r)).toNat) := by
    rw [Nat.pow_add, Nat.pow_add]; simp only [Nat.mul_assoc, Nat.mul_comm, Nat.mul_left_comm]
  rw [l, m]; congr 2; omega
end OwnFloat8
section OwnFloat9
open Jvm.FP Jvm.FP.Core
/-- a quotient by a power of two -/
theorem own_at_divp {c : Int} {j i : Nat} {a b : UInt64} (ha : own_at c (j + i) a) (hb : own_at 1 (1074 + i) b) (h : c.natAbs < 2 ^ 53) (hj : j ≤ 2045) : own_at c j (FP.ddiv a b) := by
  refine own_at_div ha hb (by decide) j ?_ h hj
  rw [Int.mul_one, show j + (1074 + i) = j + i + 1074 by omega]
theorem own_8d : own_at 1 (1074 + 3) (4620693217682128896 : UInt64) := ⟨by rw [Core.fin_bits]; decide, by decide +kernel⟩
theorem own_2d : own_at 1 (1074 + 1) (4611686018427387904 : UInt64) := ⟨by rw [Core.fin_bits]; decide, by decide +kernel⟩
end OwnFloat9

theorem own_pn0 : plainName "com/example/groundpass/groundpass/PreciseSum" = true := by first | (simp [plainName, overriddenIn]; done) | decide +kernel
theorem own_d1_0 : decode prog_31_method_1_code 0 = .ok (.aload_n 0, 1) := by decide +kernel
theorem own_d1_1 : decode prog_31_method_1_code 1 = .ok (.invokespecial 1, 3) := by decide +kernel
theorem own_d1_4 : decode prog_31_method_1_code 4 = .ok (.return_, 1) := by decide +kernel
theorem own_ef1 (m : MethodId) (a1_0 : Addr) : entryFrame m #[(.ref a1_0)] 1 = mkF m 0 #[.val (.ref a1_0)] [] := by first | (simp [entryFrame, mkF, argsToLocals, Value.category]; done) | rfl
def own_Q1 (Z : State) (a1_0 : Addr) (h0 : Heap) (n0 : Nat) (v : Option Value) (h : Heap) (L : List Loc) : Prop := v = none ∧ Fr n0 L ∧ h = h0
set_option maxRecDepth 65536 in
set_option maxHeartbeats 40000000 in
theorem own_rm1 (l : Launch) (Z : State) (a0 : Array Value) (hw : ∀ d ∈ tables_1, d.before a0 Z = true) (ws : List Jvm.Cond) (a1_0 : Addr) (h0 : Heap) (n0 : Nat) (Z0 : n0 ≤ h0.size) :
    MetFree l (⟨"com/example/groundpass/groundpass/PreciseSum", "<init>", "()V"⟩ : MethodName) (head1 (Jvm.Cond.code (⟨"com/example/groundpass/groundpass/PreciseSum", "<init>", "()V"⟩ : MethodName) prog_31_method_1_code 1 none :: ws) ({ frames := 1, cells := 0, slots := 0, locals := 12 } : Room)) (fun a U => a = #[(.ref a1_0)] ∧ Z.Warmed39 U.vm ∧ U.heap = h0) (fun _ _ _ _ _ => True) (fun _ U o U' => ∃ v L, o = .returned v ∧ own_Q1 Z a1_0 h0 n0 v U'.heap L ∧ FrameEnd U o U' L ({ frames := 1, cells := 0, slots := 0, locals := 12 } : Room).cells ({ frames := 1, cells := 0, slots := 0, locals := 12 } : Room).slots) := by
  refine MetFree.of_bodySF (plainFor_of_name own_pn0) hisR ?_
  intro p e s m args below meth c s₁ Bd hml0 hP hK
  obtain ⟨rfl, hZ, hh⟩ := hP
  have hx := Bd.exec
  have hby := Bd.bytes
  have hml : c.maxLocals = 1 := hml0
  have hown : s.vm.findClass "com/example/groundpass/groundpass/PreciseSum" = some m.cls := findClass_of_methodNamed Bd.named
  have hnm := (name_of_methodNamed Bd.named Bd.method).1
  have X0 : Stand p l e ({ frames := 1, cells := 0, slots := 0, locals := 12 } : Room) s m #[(.ref a1_0)] below meth c s₁ [] 0 0 := Stand.of_body Bd
  have e0 : s₁.heap = h0 := by rw [← hh, Bd.state]; rfl
  have N0 := Fr.nil n0
  have Zr : h0.size ≤ h0.size := Nat.le_refl _
  have pre0 : ∀ t, Steps p.tables e below (s₁.setTop (mkF m 0 #[.val (.ref a1_0)] [])) t → Steps p.tables e below (s₁.setTop (entryFrame m #[(.ref a1_0)] 1)) t := fun t k => castTop (own_ef1 m a1_0) k
  obtain ⟨Tn1_1, Xn1_1, en1_1, stn1_1⟩ := initO X0 hx hZ hown (hw _ (List.mem_of_getElem? (i := 6) rfl)) (hw _ (List.mem_of_getElem? (i := 7) rfl)) (hw _ (List.mem_of_getElem? (i := 8) rfl)) e0 (g := (mkF m 1 #[.val (.ref a1_0)] [(.ref a1_0)])) rfl (by rw [hml]; rfl) rfl (hb hby own_d1_1) (by decide) (W := 0) (by show 2 * 0 + _ ≤ _; exact Nat.le_of_eq rfl) (by decide)
  obtain ⟨fs, hr, hrun, hended, hW, hsame⟩ := Xn1_1.leave (v := none) (fun _ => rfl)
  refine ⟨_, _, pre0 _ (?_), hrun, hended, _, _, rfl, ?_, ⟨_, rfl⟩, hW, hsame.mono (by decide) (by decide)⟩
  · show Steps p.tables e below (s₁.setTop (mkF m 0 #[.val (.ref a1_0)] [])) _
    refine XS.aloadN X0.here hx rfl (hb hby own_d1_0) rfl rfl ?_
    show Steps p.tables e below (s₁.setTop (mkF m 1 #[.val (.ref a1_0)] [(.ref a1_0)])) _
    refine stn1_1 _ ?_
    show Steps p.tables e below (Tn1_1.setTop (mkF m 4 #[.val (.ref a1_0)] [])) _
    exact Xn1_1.returnOut hx Bd.returns (hb hby own_d1_4) hr
  · show own_Q1 Z a1_0 h0 n0 _ Tn1_1.heap _
    rw [en1_1]
    exact ⟨rfl, N0, rfl⟩
theorem own_d3_0 : decode prog_31_method_8_code 0 = .ok (.aload_n 0, 1) := by decide +kernel
theorem own_d3_1 : decode prog_31_method_8_code 1 = .ok (.dload_n 1, 1) := by decide +kernel
theorem own_d3_2 : decode prog_31_method_8_code 2 = .ok (.putfield 7, 3) := by decide +kernel
theorem own_d3_5 : decode prog_31_method_8_code 5 = .ok (.aload_n 0, 1) := by decide +kernel
theorem own_d3_6 : decode prog_31_method_8_code 6 = .ok (.dload_n 3, 1) := by decide +kernel
theorem own_d3_7 : decode prog_31_method_8_code 7 = .ok (.putfield 13, 3) := by decide +kernel
theorem own_d3_10 : decode prog_31_method_8_code 10 = .ok (.return_, 1) := by decide +kernel
theorem own_ef3 (m : MethodId) (a3_0 : Addr) (d3_1 : UInt64) (d3_2 : UInt64) : entryFrame m #[(.ref a3_0), (.double d3_1), (.double d3_2)] 5 = mkF m 0 #[.val (.ref a3_0), .val (.double d3_1), .second, .val (.double d3_2), .second] [] := by first | (simp [entryFrame, mkF, argsToLocals, Value.category]; done) | rfl
def own_Q3 (Z : State) (a3_0 : Addr) (d3_1 : UInt64) (d3_2 : UInt64) (w_high_a3_0 : Value) (w_low_a3_0 : Value) (h0 : Heap) (n0 : Nat) (v : Option Value) (h : Heap) (L : List Loc) : Prop := v = none ∧ Fr n0 L ∧ Keep h0 h [a3_0] ∧ Exa Z h a3_0 "com/example/groundpass/groundpass/PreciseSum" ∧ Fld Z h a3_0 "com/example/groundpass/groundpass/PreciseSum" "high" "D" (.double d3_1) ∧ Fld Z h a3_0 "com/example/groundpass/groundpass/PreciseSum" "low" "D" (.double d3_2)
set_option maxRecDepth 65536 in
set_option maxHeartbeats 40000000 in
theorem own_rm3 (l : Launch) (Z : State) (a0 : Array Value) (hw : ∀ d ∈ tables_1, d.before a0 Z = true) (ws : List Jvm.Cond) (a3_0 : Addr) (d3_1 : UInt64) (d3_2 : UInt64) (w_high_a3_0 : Value) (w_low_a3_0 : Value) (h0 : Heap) (n0 : Nat) (Z0 : n0 ≤ h0.size) (E_a3_0 : Exa Z h0 a3_0 "com/example/groundpass/groundpass/PreciseSum") (F_high_a3_0 : Fld Z h0 a3_0 "com/example/groundpass/groundpass/PreciseSum" "high" "D" w_high_a3_0) (g_a3_0 : n0 ≤ a3_0) (F_low_a3_0 : Fld Z h0 a3_0 "com/example/groundpass/groundpass/PreciseSum" "low" "D" w_low_a3_0) :
    MetFree l (⟨"com/example/groundpass/groundpass/PreciseSum", "set", "(DD)V"⟩ : MethodName) (head1 (Jvm.Cond.code (⟨"com/example/groundpass/groundpass/PreciseSum", "set", "(DD)V"⟩ : MethodName) prog_31_method_8_code 5 none :: ws) ({ frames := 0, cells := 0, slots := 0, locals := 0 } : Room)) (fun a U => a = #[(.ref a3_0), (.double d3_1), (.double d3_2)] ∧ Z.Warmed39 U.vm ∧ U.heap = h0) (fun _ _ _ _ _ => True) (fun _ U o U' => ∃ v L, o = .returned v ∧ own_Q3 Z a3_0 d3_1 d3_2 w_high_a3_0 w_low_a3_0 h0 n0 v U'.heap L ∧ FrameEnd U o U' L ({ frames := 0, cells := 0, slots := 0, locals := 0 } : Room).cells ({ frames := 0, cells := 0, slots := 0, locals := 0 } : Room).slots) := by
  refine MetFree.of_bodySF (plainFor_of_name own_pn0) hisR ?_
  intro p e s m args below meth c s₁ Bd hml0 hP hK
  obtain ⟨rfl, hZ, hh⟩ := hP
  have hx := Bd.exec
  have hby := Bd.bytes
  have hml : c.maxLocals = 5 := hml0
  have hown : s.vm.findClass "com/example/groundpass/groundpass/PreciseSum" = some m.cls := findClass_of_methodNamed Bd.named
  have hnm := (name_of_methodNamed Bd.named Bd.method).1
  have X0 : Stand p l e ({ frames := 0, cells := 0, slots := 0, locals := 0 } : Room) s m #[(.ref a3_0), (.double d3_1), (.double d3_2)] below meth c s₁ [] 0 0 := Stand.of_body Bd
  have e0 : s₁.heap = h0 := by rw [← hh, Bd.state]; rfl
  have N0 := Fr.nil n0
  have Zr : h0.size ≤ h0.size := Nat.le_refl _
  have pre0 : ∀ t, Steps p.tables e below (s₁.setTop (mkF m 0 #[.val (.ref a3_0), .val (.double d3_1), .second, .val (.double d3_2), .second] [])) t → Steps p.tables e below (s₁.setTop (entryFrame m #[(.ref a3_0), (.double d3_1), (.double d3_2)] 5)) t := fun t k => castTop (own_ef3 m a3_0 d3_1 d3_2) k
  obtain ⟨Tn3_1, hn3_1, Xn3_1, en3_1, Wn3_1, stn3_1⟩ := putF X0 hx hZ hown (host := "") (Or.inl (hw _ (List.mem_of_getElem? (i := 14) rfl))) Via.refl e0 F_high_a3_0 E_a3_0 (Or.inl (hw _ (List.mem_of_getElem? (i := 15) rfl))) (hw _ (List.mem_of_getElem? (i := 1) rfl)) (ty := .double) (by decide) rfl rfl (g := (mkF m 2 #[.val (.ref a3_0), .val (.double d3_1), .second, .val (.double d3_2), .second] [(.double d3_1), (.ref a3_0)])) rfl rfl (hb hby own_d3_2)
  have Fwn3_1 : Fld Z hn3_1 a3_0 "com/example/groundpass/groundpass/PreciseSum" "high" "D" (.double d3_1) := F_high_a3_0.same Wn3_1
  have sz3_2 : h0.size ≤ hn3_1.size := Nat.le_trans Zr (Nat.le_of_eq Wn3_1.size.symm)
  have Nn3_1 := Fr.snoc Xn3_1 N0 g_a3_0
  have F3_3 := (E_a3_0.wr Wn3_1)
  have F3_4 := (F_low_a3_0.other Wn3_1 (Or.inr (slot_ne (Or.inl (hw _ (List.mem_of_getElem? (i := 17) rfl))) (Or.inl (hw _ (List.mem_of_getElem? (i := 15) rfl))) (by decide) (t := .double) (t' := .double) (by decide) (by decide))))
  obtain ⟨Tn3_5, hn3_5, Xn3_5, en3_5, Wn3_5, stn3_5⟩ := putF Xn3_1 hx hZ hown (host := "") (Or.inl (hw _ (List.mem_of_getElem? (i := 16) rfl))) Via.refl en3_1 F3_4 F3_3 (Or.inl (hw _ (List.mem_of_getElem? (i := 17) rfl))) (hw _ (List.mem_of_getElem? (i := 1) rfl)) (ty := .double) (by decide) rfl rfl (g := (mkF m 7 #[.val (.ref a3_0), .val (.double d3_1), .second, .val (.double d3_2), .second] [(.double d3_2), (.ref a3_0)])) rfl rfl (hb hby own_d3_7)
  have Fwn3_5 : Fld Z hn3_5 a3_0 "com/example/groundpass/groundpass/PreciseSum" "low" "D" (.double d3_2) := F3_4.same Wn3_5
  have sz3_6 : h0.size ≤ hn3_5.size := Nat.le_trans sz3_2 (Nat.le_of_eq Wn3_5.size.symm)
  have Nn3_5 := Fr.snoc Xn3_5 Nn3_1 g_a3_0
  obtain ⟨fs, hr, hrun, hended, hW, hsame⟩ := Xn3_5.leave (v := none) (fun _ => rfl)
  refine ⟨_, _, pre0 _ (?_), hrun, hended, _, _, rfl, ?_, ⟨_, rfl⟩, hW, hsame.mono (by decide) (by decide)⟩
  · show Steps p.tables e below (s₁.setTop (mkF m 0 #[.val (.ref a3_0), .val (.double d3_1), .second, .val (.double d3_2), .second] [])) _
    refine XS.aloadN X0.here hx rfl (hb hby own_d3_0) rfl rfl ?_
    show Steps p.tables e below (s₁.setTop (mkF m 1 #[.val (.ref a3_0), .val (.double d3_1), .second, .val (.double d3_2), .second] [(.ref a3_0)])) _
    refine XS.dloadN X0.here hx rfl (hb hby own_d3_1) rfl ?_
    show Steps p.tables e below (s₁.setTop (mkF m 2 #[.val (.ref a3_0), .val (.double d3_1), .second, .val (.double d3_2), .second] [(.double d3_1), (.ref a3_0)])) _
    refine stn3_1 _ ?_
    show Steps p.tables e below (Tn3_1.setTop (mkF m 5 #[.val (.ref a3_0), .val (.double d3_1), .second, .val (.double d3_2), .second] [])) _
    refine XS.aloadN Xn3_1.here hx rfl (hb hby own_d3_5) rfl rfl ?_
    show Steps p.tables e below (Tn3_1.setTop (mkF m 6 #[.val (.ref a3_0), .val (.double d3_1), .second, .val (.double d3_2), .second] [(.ref a3_0)])) _
    refine XS.dloadN Xn3_1.here hx rfl (hb hby own_d3_6) rfl ?_
    show Steps p.tables e below (Tn3_1.setTop (mkF m 7 #[.val (.ref a3_0), .val (.double d3_1), .second, .val (.double d3_2), .second] [(.double d3_2), (.ref a3_0)])) _
    refine stn3_5 _ ?_
    show Steps p.tables e below (Tn3_5.setTop (mkF m 10 #[.val (.ref a3_0), .val (.double d3_1), .second, .val (.double d3_2), .second] [])) _
    exact Xn3_5.returnOut hx Bd.returns (hb hby own_d3_10) hr
  · show own_Q3 Z a3_0 d3_1 d3_2 w_high_a3_0 w_low_a3_0 h0 n0 _ Tn3_5.heap _
    rw [en3_5]
    exact ⟨rfl, Nn3_5, (((Keep.refl h0 [a3_0]).wr Wn3_1 (Or.inl (List.mem_of_getElem? (i := 0) rfl))).wr Wn3_5 (Or.inl (List.mem_of_getElem? (i := 0) rfl))), (F3_3.wr Wn3_5), (Fwn3_1.other Wn3_5 (Or.inr (slot_ne (Or.inl (hw _ (List.mem_of_getElem? (i := 15) rfl))) (Or.inl (hw _ (List.mem_of_getElem? (i := 17) rfl))) (by decide) (t := .double) (t' := .double) (by decide) (by decide)))), Fwn3_5⟩
theorem own_d4_0 : decode prog_31_method_6_code 0 = .ok (.aload_n 0, 1) := by decide +kernel
theorem own_d4_1 : decode prog_31_method_6_code 1 = .ok (.dload_n 1, 1) := by decide +kernel
theorem own_d4_2 : decode prog_31_method_6_code 2 = .ok (.putfield 7, 3) := by decide +kernel
theorem own_d4_5 : decode prog_31_method_6_code 5 = .ok (.aload_n 0, 1) := by decide +kernel
theorem own_d4_6 : decode prog_31_method_6_code 6 = .ok (.dconst 0, 1) := by decide +kernel
theorem own_d4_7 : decode prog_31_method_6_code 7 = .ok (.putfield 13, 3) := by decide +kernel
theorem own_d4_10 : decode prog_31_method_6_code 10 = .ok (.return_, 1) := by decide +kernel
theorem own_ef4 (m : MethodId) (a4_0 : Addr) (d4_1 : UInt64) : entryFrame m #[(.ref a4_0), (.double d4_1)] 3 = mkF m 0 #[.val (.ref a4_0), .val (.double d4_1), .second] [] := by first | (simp [entryFrame, mkF, argsToLocals, Value.category]; done) | rfl
def own_Q4 (Z : State) (a4_0 : Addr) (d4_1 : UInt64) (w_high_a4_0 : Value) (w_low_a4_0 : Value) (h0 : Heap) (n0 : Nat) (v : Option Value) (h : Heap) (L : List Loc) : Prop := v = none ∧ Fr n0 L ∧ Keep h0 h [a4_0] ∧ Exa Z h a4_0 "com/example/groundpass/groundpass/PreciseSum" ∧ Fld Z h a4_0 "com/example/groundpass/groundpass/PreciseSum" "high" "D" (.double d4_1) ∧ Fld Z h a4_0 "com/example/groundpass/groundpass/PreciseSum" "low" "D" (.double (0 : UInt64))
set_option maxRecDepth 65536 in
set_option maxHeartbeats 40000000 in
theorem own_rm4 (l : Launch) (Z : State) (a0 : Array Value) (hw : ∀ d ∈ tables_1, d.before a0 Z = true) (ws : List Jvm.Cond) (a4_0 : Addr) (d4_1 : UInt64) (w_high_a4_0 : Value) (w_low_a4_0 : Value) (h0 : Heap) (n0 : Nat) (Z0 : n0 ≤ h0.size) (E_a4_0 : Exa Z h0 a4_0 "com/example/groundpass/groundpass/PreciseSum") (F_high_a4_0 : Fld Z h0 a4_0 "com/example/groundpass/groundpass/PreciseSum" "high" "D" w_high_a4_0) (g_a4_0 : n0 ≤ a4_0) (F_low_a4_0 : Fld Z h0 a4_0 "com/example/groundpass/groundpass/PreciseSum" "low" "D" w_low_a4_0) :
    MetFree l (⟨"com/example/groundpass/groundpass/PreciseSum", "set", "(D)V"⟩ : MethodName) (head1 (Jvm.Cond.code (⟨"com/example/groundpass/groundpass/PreciseSum", "set", "(D)V"⟩ : MethodName) prog_31_method_6_code 3 none :: ws) ({ frames := 0, cells := 0, slots := 0, locals := 0 } : Room)) (fun a U => a = #[(.ref a4_0), (.double d4_1)] ∧ Z.Warmed39 U.vm ∧ U.heap = h0) (fun _ _ _ _ _ => True) (fun _ U o U' => ∃ v L, o = .returned v ∧ own_Q4 Z a4_0 d4_1 w_high_a4_0 w_low_a4_0 h0 n0 v U'.heap L ∧ FrameEnd U o U' L ({ frames := 0, cells := 0, slots := 0, locals := 0 } : Room).cells ({ frames := 0, cells := 0, slots := 0, locals := 0 } : Room).slots) := by
  refine MetFree.of_bodySF (plainFor_of_name own_pn0) hisR ?_
  intro p e s m args below meth c s₁ Bd hml0 hP hK
  obtain ⟨rfl, hZ, hh⟩ := hP
  have hx := Bd.exec
  have hby := Bd.bytes
  have hml : c.maxLocals = 3 := hml0
  have hown : s.vm.findClass "com/example/groundpass/groundpass/PreciseSum" = some m.cls := findClass_of_methodNamed Bd.named
  have hnm := (name_of_methodNamed Bd.named Bd.method).1
  have X0 : Stand p l e ({ frames := 0, cells := 0, slots := 0, locals := 0 } : Room) s m #[(.ref a4_0), (.double d4_1)] below meth c s₁ [] 0 0 := Stand.of_body Bd
  have e0 : s₁.heap = h0 := by rw [← hh, Bd.state]; rfl
  have N0 := Fr.nil n0
  have Zr : h0.size ≤ h0.size := Nat.le_refl _
  have pre0 : ∀ t, Steps p.tables e below (s₁.setTop (mkF m 0 #[.val (.ref a4_0), .val (.double d4_1), .second] [])) t → Steps p.tables e below (s₁.setTop (entryFrame m #[(.ref a4_0), (.double d4_1)] 3)) t := fun t k => castTop (own_ef4 m a4_0 d4_1) k
  obtain ⟨Tn4_1, hn4_1, Xn4_1, en4_1, Wn4_1, stn4_1⟩ := putF X0 hx hZ hown (host := "") (Or.inl (hw _ (List.mem_of_getElem? (i := 14) rfl))) Via.refl e0 F_high_a4_0 E_a4_0 (Or.inl (hw _ (List.mem_of_getElem? (i := 15) rfl))) (hw _ (List.mem_of_getElem? (i := 1) rfl)) (ty := .double) (by decide) rfl rfl (g := (mkF m 2 #[.val (.ref a4_0), .val (.double d4_1), .second] [(.double d4_1), (.ref a4_0)])) rfl rfl (hb hby own_d4_2)
  have Fwn4_1 : Fld Z hn4_1 a4_0 "com/example/groundpass/groundpass/PreciseSum" "high" "D" (.double d4_1) := F_high_a4_0.same Wn4_1
  have sz4_2 : h0.size ≤ hn4_1.size := Nat.le_trans Zr (Nat.le_of_eq Wn4_1.size.symm)
  have Nn4_1 := Fr.snoc Xn4_1 N0 g_a4_0
  have F4_3 := (E_a4_0.wr Wn4_1)
  have F4_4 := (F_low_a4_0.other Wn4_1 (Or.inr (slot_ne (Or.inl (hw _ (List.mem_of_getElem? (i := 17) rfl))) (Or.inl (hw _ (List.mem_of_getElem? (i := 15) rfl))) (by decide) (t := .double) (t' := .double) (by decide) (by decide))))
  obtain ⟨Tn4_5, hn4_5, Xn4_5, en4_5, Wn4_5, stn4_5⟩ := putF Xn4_1 hx hZ hown (host := "") (Or.inl (hw _ (List.mem_of_getElem? (i := 16) rfl))) Via.refl en4_1 F4_4 F4_3 (Or.inl (hw _ (List.mem_of_getElem? (i := 17) rfl))) (hw _ (List.mem_of_getElem? (i := 1) rfl)) (ty := .double) (by decide) rfl rfl (g := (mkF m 7 #[.val (.ref a4_0), .val (.double d4_1), .second] [(.double (0 : UInt64)), (.ref a4_0)])) rfl rfl (hb hby own_d4_7)
  have Fwn4_5 : Fld Z hn4_5 a4_0 "com/example/groundpass/groundpass/PreciseSum" "low" "D" (.double (0 : UInt64)) := F4_4.same Wn4_5
  have sz4_6 : h0.size ≤ hn4_5.size := Nat.le_trans sz4_2 (Nat.le_of_eq Wn4_5.size.symm)
  have Nn4_5 := Fr.snoc Xn4_5 Nn4_1 g_a4_0
  obtain ⟨fs, hr, hrun, hended, hW, hsame⟩ := Xn4_5.leave (v := none) (fun _ => rfl)
  refine ⟨_, _, pre0 _ (?_), hrun, hended, _, _, rfl, ?_, ⟨_, rfl⟩, hW, hsame.mono (by decide) (by decide)⟩
  · show Steps p.tables e below (s₁.setTop (mkF m 0 #[.val (.ref a4_0), .val (.double d4_1), .second] [])) _
    refine XS.aloadN X0.here hx rfl (hb hby own_d4_0) rfl rfl ?_
    show Steps p.tables e below (s₁.setTop (mkF m 1 #[.val (.ref a4_0), .val (.double d4_1), .second] [(.ref a4_0)])) _
    refine XS.dloadN X0.here hx rfl (hb hby own_d4_1) rfl ?_
    show Steps p.tables e below (s₁.setTop (mkF m 2 #[.val (.ref a4_0), .val (.double d4_1), .second] [(.double d4_1), (.ref a4_0)])) _
    refine stn4_1 _ ?_
    show Steps p.tables e below (Tn4_1.setTop (mkF m 5 #[.val (.ref a4_0), .val (.double d4_1), .second] [])) _
    refine XS.aloadN Xn4_1.here hx rfl (hb hby own_d4_5) rfl rfl ?_
    show Steps p.tables e below (Tn4_1.setTop (mkF m 6 #[.val (.ref a4_0), .val (.double d4_1), .second] [(.ref a4_0)])) _
    refine XS.dconst0 Xn4_1.here hx rfl (hb hby own_d4_6) (v := (0 : UInt64)) (by decide +kernel) ?_
    show Steps p.tables e below (Tn4_1.setTop (mkF m 7 #[.val (.ref a4_0), .val (.double d4_1), .second] [(.double (0 : UInt64)), (.ref a4_0)])) _
    refine stn4_5 _ ?_
    show Steps p.tables e below (Tn4_5.setTop (mkF m 10 #[.val (.ref a4_0), .val (.double d4_1), .second] [])) _
    exact Xn4_5.returnOut hx Bd.returns (hb hby own_d4_10) hr
  · show own_Q4 Z a4_0 d4_1 w_high_a4_0 w_low_a4_0 h0 n0 _ Tn4_5.heap _
    rw [en4_5]
    exact ⟨rfl, Nn4_5, (((Keep.refl h0 [a4_0]).wr Wn4_1 (Or.inl (List.mem_of_getElem? (i := 0) rfl))).wr Wn4_5 (Or.inl (List.mem_of_getElem? (i := 0) rfl))), (F4_3.wr Wn4_5), (Fwn4_1.other Wn4_5 (Or.inr (slot_ne (Or.inl (hw _ (List.mem_of_getElem? (i := 15) rfl))) (Or.inl (hw _ (List.mem_of_getElem? (i := 17) rfl))) (by decide) (t := .double) (t' := .double) (by decide) (by decide)))), Fwn4_5⟩
theorem own_d5_0 : decode prog_31_method_2_code 0 = .ok (.aload_n 0, 1) := by decide +kernel
theorem own_d5_1 : decode prog_31_method_2_code 1 = .ok (.getfield 7, 3) := by decide +kernel
theorem own_d5_4 : decode prog_31_method_2_code 4 = .ok (.dreturn, 1) := by decide +kernel
theorem own_ef5 (m : MethodId) (a5_0 : Addr) : entryFrame m #[(.ref a5_0)] 1 = mkF m 0 #[.val (.ref a5_0)] [] := by first | (simp [entryFrame, mkF, argsToLocals, Value.category]; done) | rfl
def own_Q5 (Z : State) (a5_0 : Addr) (w_high_a5_0 : UInt64) (h0 : Heap) (n0 : Nat) (v : Option Value) (h : Heap) (L : List Loc) : Prop := v = some (.double w_high_a5_0) ∧ Fr n0 L ∧ h = h0
set_option maxRecDepth 65536 in
set_option maxHeartbeats 40000000 in
theorem own_rm5 (l : Launch) (Z : State) (a0 : Array Value) (hw : ∀ d ∈ tables_1, d.before a0 Z = true) (ws : List Jvm.Cond) (a5_0 : Addr) (w_high_a5_0 : UInt64) (h0 : Heap) (n0 : Nat) (Z0 : n0 ≤ h0.size) (F_high_a5_0 : Fld Z h0 a5_0 "com/example/groundpass/groundpass/PreciseSum" "high" "D" (.double w_high_a5_0)) :
    MetFree l (⟨"com/example/groundpass/groundpass/PreciseSum", "value", "()D"⟩ : MethodName) (head1 (Jvm.Cond.code (⟨"com/example/groundpass/groundpass/PreciseSum", "value", "()D"⟩ : MethodName) prog_31_method_2_code 1 (some .double) :: ws) ({ frames := 0, cells := 0, slots := 0, locals := 0 } : Room)) (fun a U => a = #[(.ref a5_0)] ∧ Z.Warmed39 U.vm ∧ U.heap = h0) (fun _ _ _ _ _ => True) (fun _ U o U' => ∃ v L, o = .returned v ∧ own_Q5 Z a5_0 w_high_a5_0 h0 n0 v U'.heap L ∧ FrameEnd U o U' L ({ frames := 0, cells := 0, slots := 0, locals := 0 } : Room).cells ({ frames := 0, cells := 0, slots := 0, locals := 0 } : Room).slots) := by
  refine MetFree.of_bodySF (plainFor_of_name own_pn0) hisR ?_
  intro p e s m args below meth c s₁ Bd hml0 hP hK
  obtain ⟨rfl, hZ, hh⟩ := hP
  have hx := Bd.exec
  have hby := Bd.bytes
  have hml : c.maxLocals = 1 := hml0
  have hown : s.vm.findClass "com/example/groundpass/groundpass/PreciseSum" = some m.cls := findClass_of_methodNamed Bd.named
  have hnm := (name_of_methodNamed Bd.named Bd.method).1
  have X0 : Stand p l e ({ frames := 0, cells := 0, slots := 0, locals := 0 } : Room) s m #[(.ref a5_0)] below meth c s₁ [] 0 0 := Stand.of_body Bd
  have e0 : s₁.heap = h0 := by rw [← hh, Bd.state]; rfl
  have N0 := Fr.nil n0
  have Zr : h0.size ≤ h0.size := Nat.le_refl _
  have pre0 : ∀ t, Steps p.tables e below (s₁.setTop (mkF m 0 #[.val (.ref a5_0)] [])) t → Steps p.tables e below (s₁.setTop (entryFrame m #[(.ref a5_0)] 1)) t := fun t k => castTop (own_ef5 m a5_0) k
  obtain ⟨Tn5_1, Xn5_1, en5_1, stn5_1⟩ := getF X0 hx hZ hown (host := "") (Or.inl (hw _ (List.mem_of_getElem? (i := 14) rfl))) Via.refl e0 F_high_a5_0 (g := (mkF m 1 #[.val (.ref a5_0)] [(.ref a5_0)])) rfl rfl (hb hby own_d5_1)
  obtain ⟨fs, hr, hrun, hended, hW, hsame⟩ := Xn5_1.leave (v := some (.double w_high_a5_0)) (fun h => by rw [Bd.returns] at h; cases h)
  refine ⟨_, _, pre0 _ (?_), hrun, hended, _, _, rfl, ?_, ⟨_, rfl⟩, hW, hsame.mono (by decide) (by decide)⟩
  · show Steps p.tables e below (s₁.setTop (mkF m 0 #[.val (.ref a5_0)] [])) _
    refine XS.aloadN X0.here hx rfl (hb hby own_d5_0) rfl rfl ?_
    show Steps p.tables e below (s₁.setTop (mkF m 1 #[.val (.ref a5_0)] [(.ref a5_0)])) _
    refine stn5_1 _ ?_
    show Steps p.tables e below (Tn5_1.setTop (mkF m 4 #[.val (.ref a5_0)] [(.double w_high_a5_0)])) _
    exact own_retD Xn5_1 hx Bd.returns (hb hby own_d5_4) hr
  · show own_Q5 Z a5_0 w_high_a5_0 h0 n0 _ Tn5_1.heap _
    rw [en5_1]
    exact ⟨rfl, N0, rfl⟩
theorem own_d6_0 : decode prog_31_method_3_code 0 = .ok (.aload_n 0, 1) := by decide +kernel
theorem own_d6_1 : decode prog_31_method_3_code 1 = .ok (.getfield 13, 3) := by decide +kernel
theorem own_d6_4 : decode prog_31_method_3_code 4 = .ok (.dreturn, 1) := by decide +kernel
theorem own_ef6 (m : MethodId) (a6_0 : Addr) : entryFrame m #[(.ref a6_0)] 1 = mkF m 0 #[.val (.ref a6_0)] [] := by first | (simp [entryFrame, mkF, argsToLocals, Value.category]; done) | rfl
def own_Q6 (Z : State) (a6_0 : Addr) (w_low_a6_0 : UInt64) (h0 : Heap) (n0 : Nat) (v : Option Value) (h : Heap) (L : List Loc) : Prop := v = some (.double w_low_a6_0) ∧ Fr n0 L ∧ h = h0
set_option maxRecDepth 65536 in
set_option maxHeartbeats 40000000 in
theorem own_rm6 (l : Launch) (Z : State) (a0 : Array Value) (hw : ∀ d ∈ tables_1, d.before a0 Z = true) (ws : List Jvm.Cond) (a6_0 : Addr) (w_low_a6_0 : UInt64) (h0 : Heap) (n0 : Nat) (Z0 : n0 ≤ h0.size) (F_low_a6_0 : Fld Z h0 a6_0 "com/example/groundpass/groundpass/PreciseSum" "low" "D" (.double w_low_a6_0)) :
    MetFree l (⟨"com/example/groundpass/groundpass/PreciseSum", "rest", "()D"⟩ : MethodName) (head1 (Jvm.Cond.code (⟨"com/example/groundpass/groundpass/PreciseSum", "rest", "()D"⟩ : MethodName) prog_31_method_3_code 1 (some .double) :: ws) ({ frames := 0, cells := 0, slots := 0, locals := 0 } : Room)) (fun a U => a = #[(.ref a6_0)] ∧ Z.Warmed39 U.vm ∧ U.heap = h0) (fun _ _ _ _ _ => True) (fun _ U o U' => ∃ v L, o = .returned v ∧ own_Q6 Z a6_0 w_low_a6_0 h0 n0 v U'.heap L ∧ FrameEnd U o U' L ({ frames := 0, cells := 0, slots := 0, locals := 0 } : Room).cells ({ frames := 0, cells := 0, slots := 0, locals := 0 } : Room).slots) := by
  refine MetFree.of_bodySF (plainFor_of_name own_pn0) hisR ?_
  intro p e s m args below meth c s₁ Bd hml0 hP hK
  obtain ⟨rfl, hZ, hh⟩ := hP
  have hx := Bd.exec
  have hby := Bd.bytes
  have hml : c.maxLocals = 1 := hml0
  have hown : s.vm.findClass "com/example/groundpass/groundpass/PreciseSum" = some m.cls := findClass_of_methodNamed Bd.named
  have hnm := (name_of_methodNamed Bd.named Bd.method).1
  have X0 : Stand p l e ({ frames := 0, cells := 0, slots := 0, locals := 0 } : Room) s m #[(.ref a6_0)] below meth c s₁ [] 0 0 := Stand.of_body Bd
  have e0 : s₁.heap = h0 := by rw [← hh, Bd.state]; rfl
  have N0 := Fr.nil n0
  have Zr : h0.size ≤ h0.size := Nat.le_refl _
  have pre0 : ∀ t, Steps p.tables e below (s₁.setTop (mkF m 0 #[.val (.ref a6_0)] [])) t → Steps p.tables e below (s₁.setTop (entryFrame m #[(.ref a6_0)] 1)) t := fun t k => castTop (own_ef6 m a6_0) k
  obtain ⟨Tn6_1, Xn6_1, en6_1, stn6_1⟩ := getF X0 hx hZ hown (host := "") (Or.inl (hw _ (List.mem_of_getElem? (i := 16) rfl))) Via.refl e0 F_low_a6_0 (g := (mkF m 1 #[.val (.ref a6_0)] [(.ref a6_0)])) rfl rfl (hb hby own_d6_1)
  obtain ⟨fs, hr, hrun, hended, hW, hsame⟩ := Xn6_1.leave (v := some (.double w_low_a6_0)) (fun h => by rw [Bd.returns] at h; cases h)
  refine ⟨_, _, pre0 _ (?_), hrun, hended, _, _, rfl, ?_, ⟨_, rfl⟩, hW, hsame.mono (by decide) (by decide)⟩
  · show Steps p.tables e below (s₁.setTop (mkF m 0 #[.val (.ref a6_0)] [])) _
    refine XS.aloadN X0.here hx rfl (hb hby own_d6_0) rfl rfl ?_
    show Steps p.tables e below (s₁.setTop (mkF m 1 #[.val (.ref a6_0)] [(.ref a6_0)])) _
    refine stn6_1 _ ?_
    show Steps p.tables e below (Tn6_1.setTop (mkF m 4 #[.val (.ref a6_0)] [(.double w_low_a6_0)])) _
    exact own_retD Xn6_1 hx Bd.returns (hb hby own_d6_4) hr
  · show own_Q6 Z a6_0 w_low_a6_0 h0 n0 _ Tn6_1.heap _
    rw [en6_1]
    exact ⟨rfl, N0, rfl⟩
theorem own_d7_0 : decode prog_31_method_5_code 0 = .ok (.dload_n 1, 1) := by decide +kernel
theorem own_d7_1 : decode prog_31_method_5_code 1 = .ok (.aload_n 0, 1) := by decide +kernel
theorem own_d7_2 : decode prog_31_method_5_code 2 = .ok (.getfield 7, 3) := by decide +kernel
theorem own_d7_5 : decode prog_31_method_5_code 5 = .ok (.dsub, 1) := by decide +kernel
theorem own_d7_6 : decode prog_31_method_5_code 6 = .ok (.dload_n 3, 1) := by decide +kernel
theorem own_d7_7 : decode prog_31_method_5_code 7 = .ok (.aload_n 0, 1) := by decide +kernel
theorem own_d7_8 : decode prog_31_method_5_code 8 = .ok (.getfield 13, 3) := by decide +kernel
theorem own_d7_11 : decode prog_31_method_5_code 11 = .ok (.dsub, 1) := by decide +kernel
theorem own_d7_12 : decode prog_31_method_5_code 12 = .ok (.dadd, 1) := by decide +kernel
theorem own_d7_13 : decode prog_31_method_5_code 13 = .ok (.dreturn, 1) := by decide +kernel
def own_r7_0 (d7_1 : UInt64) (d7_2 : UInt64) (w_high_a7_0 : UInt64) (w_low_a7_0 : UInt64) : UInt64 := (FP.dadd (FP.dsub d7_1 w_high_a7_0) (FP.dsub d7_2 w_low_a7_0))
theorem own_ef7 (m : MethodId) (a7_0 : Addr) (d7_1 : UInt64) (d7_2 : UInt64) : entryFrame m #[(.ref a7_0), (.double d7_1), (.double d7_2)] 5 = mkF m 0 #[.val (.ref a7_0), .val (.double d7_1), .second, .val (.double d7_2), .second] [] := by first | (simp [entryFrame, mkF, argsToLocals, Value.category]; done) | rfl
def own_Q7 (Z : State) (a7_0 : Addr) (d7_1 : UInt64) (d7_2 : UInt64) (w_high_a7_0 : UInt64) (w_low_a7_0 : UInt64) (h0 : Heap) (n0 : Nat) (v : Option Value) (h : Heap) (L : List Loc) : Prop := v = some (.double (own_r7_0 d7_1 d7_2 w_high_a7_0 w_low_a7_0)) ∧ Fr n0 L ∧ h = h0
set_option maxRecDepth 65536 in
set_option maxHeartbeats 40000000 in
theorem own_rm7 (l : Launch) (Z : State) (a0 : Array Value) (hw : ∀ d ∈ tables_1, d.before a0 Z = true) (ws : List Jvm.Cond) (a7_0 : Addr) (d7_1 : UInt64) (d7_2 : UInt64) (w_high_a7_0 : UInt64) (w_low_a7_0 : UInt64) (h0 : Heap) (n0 : Nat) (Z0 : n0 ≤ h0.size) (F_high_a7_0 : Fld Z h0 a7_0 "com/example/groundpass/groundpass/PreciseSum" "high" "D" (.double w_high_a7_0)) (F_low_a7_0 : Fld Z h0 a7_0 "com/example/groundpass/groundpass/PreciseSum" "low" "D" (.double w_low_a7_0)) (nn5 : NoNaN64 (FP.dsub d7_1 w_high_a7_0)) (nn11 : NoNaN64 (FP.dsub d7_2 w_low_a7_0)) (nn12 : NoNaN64 (FP.dadd (FP.dsub d7_1 w_high_a7_0) (FP.dsub d7_2 w_low_a7_0))) :
    MetFree l (⟨"com/example/groundpass/groundpass/PreciseSum", "below", "(DD)D"⟩ : MethodName) (head1 (Jvm.Cond.code (⟨"com/example/groundpass/groundpass/PreciseSum", "below", "(DD)D"⟩ : MethodName) prog_31_method_5_code 5 (some .double) :: ws) ({ frames := 0, cells := 0, slots := 0, locals := 0 } : Room)) (fun a U => a = #[(.ref a7_0), (.double d7_1), (.double d7_2)] ∧ Z.Warmed39 U.vm ∧ U.heap = h0) (fun _ _ _ _ _ => True) (fun _ U o U' => ∃ v L, o = .returned v ∧ own_Q7 Z a7_0 d7_1 d7_2 w_high_a7_0 w_low_a7_0 h0 n0 v U'.heap L ∧ FrameEnd U o U' L ({ frames := 0, cells := 0, slots := 0, locals := 0 } : Room).cells ({ frames := 0, cells := 0, slots := 0, locals := 0 } : Room).slots) := by
  refine MetFree.of_bodySF (plainFor_of_name own_pn0) hisR ?_
  intro p e s m args below meth c s₁ Bd hml0 hP hK
  obtain ⟨rfl, hZ, hh⟩ := hP
  have hx := Bd.exec
  have hby := Bd.bytes
  have hml : c.maxLocals = 5 := hml0
  have hown : s.vm.findClass "com/example/groundpass/groundpass/PreciseSum" = some m.cls := findClass_of_methodNamed Bd.named
  have hnm := (name_of_methodNamed Bd.named Bd.method).1
  have X0 : Stand p l e ({ frames := 0, cells := 0, slots := 0, locals := 0 } : Room) s m #[(.ref a7_0), (.double d7_1), (.double d7_2)] below meth c s₁ [] 0 0 := Stand.of_body Bd
  have e0 : s₁.heap = h0 := by rw [← hh, Bd.state]; rfl
  have N0 := Fr.nil n0
  have Zr : h0.size ≤ h0.size := Nat.le_refl _
  have pre0 : ∀ t, Steps p.tables e below (s₁.setTop (mkF m 0 #[.val (.ref a7_0), .val (.double d7_1), .second, .val (.double d7_2), .second] [])) t → Steps p.tables e below (s₁.setTop (entryFrame m #[(.ref a7_0), (.double d7_1), (.double d7_2)] 5)) t := fun t k => castTop (own_ef7 m a7_0 d7_1 d7_2) k
  obtain ⟨Tn7_1, Xn7_1, en7_1, stn7_1⟩ := getF X0 hx hZ hown (host := "") (Or.inl (hw _ (List.mem_of_getElem? (i := 14) rfl))) Via.refl e0 F_high_a7_0 (g := (mkF m 2 #[.val (.ref a7_0), .val (.double d7_1), .second, .val (.double d7_2), .second] [(.ref a7_0), (.double d7_1)])) rfl rfl (hb hby own_d7_2)
  obtain ⟨Tn7_2, Xn7_2, en7_2, stn7_2⟩ := getF Xn7_1 hx hZ hown (host := "") (Or.inl (hw _ (List.mem_of_getElem? (i := 16) rfl))) Via.refl en7_1 F_low_a7_0 (g := (mkF m 8 #[.val (.ref a7_0), .val (.double d7_1), .second, .val (.double d7_2), .second] [(.ref a7_0), (.double d7_2), (.double (FP.dsub d7_1 w_high_a7_0))])) rfl rfl (hb hby own_d7_8)
  obtain ⟨fs, hr, hrun, hended, hW, hsame⟩ := Xn7_2.leave (v := some (.double (FP.dadd (FP.dsub d7_1 w_high_a7_0) (FP.dsub d7_2 w_low_a7_0)))) (fun h => by rw [Bd.returns] at h; cases h)
  refine ⟨_, _, pre0 _ (?_), hrun, hended, _, _, rfl, ?_, ⟨_, rfl⟩, hW, hsame.mono (by decide) (by decide)⟩
  · show Steps p.tables e below (s₁.setTop (mkF m 0 #[.val (.ref a7_0), .val (.double d7_1), .second, .val (.double d7_2), .second] [])) _
    refine XS.dloadN X0.here hx rfl (hb hby own_d7_0) rfl ?_
    show Steps p.tables e below (s₁.setTop (mkF m 1 #[.val (.ref a7_0), .val (.double d7_1), .second, .val (.double d7_2), .second] [(.double d7_1)])) _
    refine XS.aloadN X0.here hx rfl (hb hby own_d7_1) rfl rfl ?_
    show Steps p.tables e below (s₁.setTop (mkF m 2 #[.val (.ref a7_0), .val (.double d7_1), .second, .val (.double d7_2), .second] [(.ref a7_0), (.double d7_1)])) _
    refine stn7_1 _ ?_
    show Steps p.tables e below (Tn7_1.setTop (mkF m 5 #[.val (.ref a7_0), .val (.double d7_1), .second, .val (.double d7_2), .second] [(.double w_high_a7_0), (.double d7_1)])) _
    refine XS.dsubS Xn7_1.here hx rfl (hb hby own_d7_5) rfl nn5 rfl ?_
    show Steps p.tables e below (Tn7_1.setTop (mkF m 6 #[.val (.ref a7_0), .val (.double d7_1), .second, .val (.double d7_2), .second] [(.double (FP.dsub d7_1 w_high_a7_0))])) _
    refine XS.dloadN Xn7_1.here hx rfl (hb hby own_d7_6) rfl ?_
    show Steps p.tables e below (Tn7_1.setTop (mkF m 7 #[.val (.ref a7_0), .val (.double d7_1), .second, .val (.double d7_2), .second] [(.double d7_2), (.double (FP.dsub d7_1 w_high_a7_0))])) _
    refine XS.aloadN Xn7_1.here hx rfl (hb hby own_d7_7) rfl rfl ?_
    show Steps p.tables e below (Tn7_1.setTop (mkF m 8 #[.val (.ref a7_0), .val (.double d7_1), .second, .val (.double d7_2), .second] [(.ref a7_0), (.double d7_2), (.double (FP.dsub d7_1 w_high_a7_0))])) _
    refine stn7_2 _ ?_
    show Steps p.tables e below (Tn7_2.setTop (mkF m 11 #[.val (.ref a7_0), .val (.double d7_1), .second, .val (.double d7_2), .second] [(.double w_low_a7_0), (.double d7_2), (.double (FP.dsub d7_1 w_high_a7_0))])) _
    refine XS.dsubS Xn7_2.here hx rfl (hb hby own_d7_11) rfl nn11 rfl ?_
    show Steps p.tables e below (Tn7_2.setTop (mkF m 12 #[.val (.ref a7_0), .val (.double d7_1), .second, .val (.double d7_2), .second] [(.double (FP.dsub d7_2 w_low_a7_0)), (.double (FP.dsub d7_1 w_high_a7_0))])) _
    refine XS.daddS Xn7_2.here hx rfl (hb hby own_d7_12) rfl nn12 rfl ?_
    show Steps p.tables e below (Tn7_2.setTop (mkF m 13 #[.val (.ref a7_0), .val (.double d7_1), .second, .val (.double d7_2), .second] [(.double (FP.dadd (FP.dsub d7_1 w_high_a7_0) (FP.dsub d7_2 w_low_a7_0)))])) _
    exact own_retD Xn7_2 hx Bd.returns (hb hby own_d7_13) hr
  · show own_Q7 Z a7_0 d7_1 d7_2 w_high_a7_0 w_low_a7_0 h0 n0 _ Tn7_2.heap _
    rw [en7_2]
    exact ⟨rfl, N0, rfl⟩
theorem own_pn1 : plainName "com/example/groundpass/groundpass/PreciseSumSetPinLaw" = true := by first | (simp [plainName, overriddenIn]; done) | decide +kernel
theorem own_pd0 : parseMethodDescriptor "()V" = some ⟨[], none⟩ := by decide +kernel
theorem own_pd1 : parseMethodDescriptor "(DD)V" = some ⟨[.double, .double], none⟩ := by decide +kernel
theorem own_pd2 : parseMethodDescriptor "(D)V" = some ⟨[.double], none⟩ := by decide +kernel
theorem own_pd3 : parseMethodDescriptor "()D" = some ⟨[], some .double⟩ := by decide +kernel
theorem own_pd4 : parseMethodDescriptor "(DD)D" = some ⟨[.double, .double], some .double⟩ := by decide +kernel
def own_v0_0 (p0_2 : Int32) : UInt64 := (FP.dmul (FP.i2d p0_2) (4787326403894837248 : UInt64))
def own_j0_1 (p0_2 : Int32) (p0_3 : Int32) : UInt64 := if (p0_3 &&& (2 : Int32)) = (0 : Int32) then (FP.i2d p0_2) else (own_v0_0 p0_2)
theorem own_ef0 (m : MethodId) (p0_0 : Int32) (p0_1 : Int32) (p0_2 : Int32) (p0_3 : Int32) : entryFrame m #[(.int p0_0), (.int p0_1), (.int p0_2), (.int p0_3)] maxLocals = mkF m 0 #[.val (.int p0_0), .val (.int p0_1), .val (.int p0_2), .val (.int p0_3), .unset, .unset, .unset] [] := by first | (simp [entryFrame, mkF, argsToLocals, Value.category, maxLocals]; done) | rfl
def own_Q0 (Z : State) (p0_0 : Int32) (p0_1 : Int32) (p0_2 : Int32) (p0_3 : Int32) (h0 : Heap) (n0 : Nat) (v : Option Value) (h : Heap) (L : List Loc) : Prop := v = some (.int (1 : Int32)) ∧ Fr n0 L
set_option maxRecDepth 65536 in
set_option maxHeartbeats 40000000 in
theorem own_rm0 (l : Launch) (Z : State) (a0 : Array Value) (hw : ∀ d ∈ tables_1, d.before a0 Z = true) (ws : List Jvm.Cond) (p0_0 : Int32) (p0_1 : Int32) (p0_2 : Int32) (p0_3 : Int32) (h0 : Heap) (n0 : Nat) (Z0 : n0 ≤ h0.size) (nn39 : NoNaN64 (FP.dmul (FP.i2d p0_2) (4787326403894837248 : UInt64))) (hc57 : (cmpValue (FP.dcmp (own_j0_1 p0_2 p0_3) (own_j0_1 p0_2 p0_3)) .l) = (0 : Int32)) (hc67 : (cmpValue (FP.dcmp (0 : UInt64) (0 : UInt64)) .l) = (0 : Int32)) (c75_nn5 : NoNaN64 (FP.dsub (own_j0_1 p0_2 p0_3) (own_j0_1 p0_2 p0_3))) (c75_nn11 : NoNaN64 (FP.dsub (0 : UInt64) (0 : UInt64))) (c75_nn12 : NoNaN64 (FP.dadd (FP.dsub (own_j0_1 p0_2 p0_3) (own_j0_1 p0_2 p0_3)) (FP.dsub (0 : UInt64) (0 : UInt64)))) (hc80 : (cmpValue (FP.dcmp (own_r7_0 (own_j0_1 p0_2 p0_3) (0 : UInt64) (own_j0_1 p0_2 p0_3) (0 : UInt64)) (0 : UInt64)) .l) = (0 : Int32)) :
    MetFree l x (head1 (Jvm.Cond.code x code maxLocals ret :: ws) room_1) (fun a U => a = #[(.int p0_0), (.int p0_1), (.int p0_2), (.int p0_3)] ∧ Z.Warmed39 U.vm ∧ U.heap = h0) (fun _ _ _ _ _ => True) (fun _ U o U' => ∃ v L, o = .returned v ∧ own_Q0 Z p0_0 p0_1 p0_2 p0_3 h0 n0 v U'.heap L ∧ FrameEnd U o U' L room_1.cells room_1.slots) := by
  refine MetFree.of_bodySF (plainFor_of_name own_pn1) hisR ?_
  intro p e s m args below meth c s₁ Bd hml0 hP hK
  obtain ⟨rfl, hZ, hh⟩ := hP
  have hx := Bd.exec
  have hby := Bd.bytes
  have hml : c.maxLocals = 7 := hml0
  have hown : s.vm.findClass "com/example/groundpass/groundpass/PreciseSumSetPinLaw" = some m.cls := findClass_of_methodNamed Bd.named
  have hnm := (name_of_methodNamed Bd.named Bd.method).1
  have X0 : Stand p l e room_1 s m #[(.int p0_0), (.int p0_1), (.int p0_2), (.int p0_3)] below meth c s₁ [] 0 0 := Stand.of_body Bd
  have e0 : s₁.heap = h0 := by rw [← hh, Bd.state]; rfl
  have N0 := Fr.nil n0
  have Zr : h0.size ≤ h0.size := Nat.le_refl _
  have pre0 : ∀ t, Steps p.tables e below (s₁.setTop (mkF m 0 #[.val (.int p0_0), .val (.int p0_1), .val (.int p0_2), .val (.int p0_3), .unset, .unset, .unset] [])) t → Steps p.tables e below (s₁.setTop (entryFrame m #[(.int p0_0), (.int p0_1), (.int p0_2), (.int p0_3)] maxLocals)) t := fun t k => castTop (own_ef0 m p0_0 p0_1 p0_2 p0_3) k
  obtain ⟨Tn0_1, hn0_1, Xn0_1, en0_1, En0_1, An0_1, Dn0_1, -, stn0_1⟩ := newO X0 hx hZ hown (hw _ (List.mem_of_getElem? (i := 0) rfl)) (hw _ (List.mem_of_getElem? (i := 1) rfl)) (hw _ (List.mem_of_getElem? (i := 2) rfl)) e0 (g := (mkF m 0 #[.val (.int p0_0), .val (.int p0_1), .val (.int p0_2), .val (.int p0_3), .unset, .unset, .unset] [])) rfl (hb hby at_0) (by decide) (by decide)
  obtain ⟨bn0_1, gn0_1⟩ : ∃ z, z = h0.size := ⟨_, rfl⟩
  rw [← gn0_1] at An0_1 Dn0_1 stn0_1
  have g_bn0_1 : n0 ≤ bn0_1 := Nat.le_trans Z0 (Nat.le_of_eq gn0_1.symm)
  have sz_bn0_1 : h0.size ≤ bn0_1 := Nat.le_trans Zr (Nat.le_of_eq gn0_1.symm)
  have sz0_2 : h0.size ≤ hn0_1.size := Nat.le_trans Zr En0_1.1
  have F_high_bn0_1 : Fld Z hn0_1 bn0_1 "com/example/groundpass/groundpass/PreciseSum" "high" "D" (.double (0 : UInt64)) := Dn0_1 (Or.inl (hw _ (List.mem_of_getElem? (i := 15) rfl))) (ty := .double) (by decide)
  have F_low_bn0_1 : Fld Z hn0_1 bn0_1 "com/example/groundpass/groundpass/PreciseSum" "low" "D" (.double (0 : UInt64)) := Dn0_1 (Or.inl (hw _ (List.mem_of_getElem? (i := 17) rfl))) (ty := .double) (by decide)
  obtain ⟨_, _, ⟨Tk0_3, Lk0_3, kk0_3, nk0_3⟩, -, Xk0_3, ⟨Lck0_3, hQk0_3, lk0_3, yk0_3, zk0_3⟩, stk0_3⟩ := Xn0_1.specialBack hx (y := (⟨"com/example/groundpass/groundpass/PreciseSum", "<init>", "()V"⟩ : MethodName)) rfl hown (mvT hZ (hw _ (List.mem_of_getElem? (i := 3) rfl))) (mvT hZ (hw _ (List.mem_of_getElem? (i := 4) rfl))) (mvT hZ (hw _ (List.mem_of_getElem? (i := 5) rfl))) (by decide) (backOf (W := 1) (own_rm1 l Z a0 hw [] bn0_1 hn0_1 n0 (Nat.le_trans Z0 sz0_2)) hZ (hw _ (List.mem_of_getElem? (i := 5) rfl)) (hw _ (List.mem_of_getElem? (i := 2) rfl)) (by decide) (by decide)) (g := (mkF m 4 #[.val (.int p0_0), .val (.int p0_1), .val (.int p0_2), .val (.int p0_3), .unset, .unset, .unset] [(.ref bn0_1), (.ref bn0_1)])) rfl (by rw [hml]; rfl) (Steps.refl _) (a := bn0_1) (argsL := []) (rest := [(.ref bn0_1)]) (lenOf own_pd0 rfl) rfl (by show 2 * 0 + _ ≤ _; exact Nat.le_of_eq rfl) (hb hby at_4) (fun _ _ => ⟨rfl, en0_1, (by decide : 1 + 0 ≤ _), (by decide : 2 + 0 ≤ _)⟩)
  dsimp only [Pt.U, Pt.locs, Pt.cells, Pt.slots] at Xk0_3 lk0_3 yk0_3 zk0_3 stk0_3 hQk0_3
  subst lk0_3 yk0_3 zk0_3
  obtain ⟨rfl, Nk0_3q, ek0_3⟩ := hQk0_3
  have Nk0_3 := Fr.app N0 Nk0_3q
  have Ks0_7 : ∀ t, Steps p.tables e below (Tk0_3.setTop (mkF m 12 #[.val (.int p0_0), .val (.int p0_1), .val (.int p0_2), .val (.int p0_3), .val (.ref bn0_1), .unset, .unset] [(.int (p0_3 &&& (1 : Int32)))])) t → Steps p.tables e below (s₁.setTop (mkF m 0 #[.val (.int p0_0), .val (.int p0_1), .val (.int p0_2), .val (.int p0_3), .unset, .unset, .unset] [])) t := by
    intro t kt
    show Steps p.tables e below (s₁.setTop (mkF m 0 #[.val (.int p0_0), .val (.int p0_1), .val (.int p0_2), .val (.int p0_3), .unset, .unset, .unset] [])) _
    refine stn0_1 _ ?_
    show Steps p.tables e below (Tn0_1.setTop (mkF m 3 #[.val (.int p0_0), .val (.int p0_1), .val (.int p0_2), .val (.int p0_3), .unset, .unset, .unset] [(.ref bn0_1)])) _
    refine XS.dup Xn0_1.here hx rfl (hb hby at_3) rfl rfl ?_
    show Steps p.tables e below (Tn0_1.setTop (mkF m 4 #[.val (.int p0_0), .val (.int p0_1), .val (.int p0_2), .val (.int p0_3), .unset, .unset, .unset] [(.ref bn0_1), (.ref bn0_1)])) _
    refine stk0_3.trans ?_
    show Steps p.tables e below (Tk0_3.setTop (mkF m 7 #[.val (.int p0_0), .val (.int p0_1), .val (.int p0_2), .val (.int p0_3), .unset, .unset, .unset] [(.ref bn0_1)])) _
    refine XS.astore Xk0_3.here hx rfl (hb hby at_7) rfl rfl (l' := #[.val (.int p0_0), .val (.int p0_1), .val (.int p0_2), .val (.int p0_3), .val (.ref bn0_1), .unset, .unset]) rfl ?_
    show Steps p.tables e below (Tk0_3.setTop (mkF m 9 #[.val (.int p0_0), .val (.int p0_1), .val (.int p0_2), .val (.int p0_3), .val (.ref bn0_1), .unset, .unset] [])) _
    refine XS.iloadN Xk0_3.here hx rfl (hb hby at_9) rfl ?_
    show Steps p.tables e below (Tk0_3.setTop (mkF m 10 #[.val (.int p0_0), .val (.int p0_1), .val (.int p0_2), .val (.int p0_3), .val (.ref bn0_1), .unset, .unset] [(.int p0_3)])) _
    refine XS.iconst Xk0_3.here hx rfl (hb hby at_10) ?_
    show Steps p.tables e below (Tk0_3.setTop (mkF m 11 #[.val (.int p0_0), .val (.int p0_1), .val (.int p0_2), .val (.int p0_3), .val (.ref bn0_1), .unset, .unset] [(.int (1 : Int32)), (.int p0_3)])) _
    refine XS.iand Xk0_3.here hx rfl (hb hby at_11) rfl ?_
    exact kt
  by_cases hs0_7 : (p0_3 &&& (1 : Int32)) = (0 : Int32)
  · have K0_8 : ∀ t, Steps p.tables e below (Tk0_3.setTop (mkF m 24 #[.val (.int p0_0), .val (.int p0_1), .val (.int p0_2), .val (.int p0_3), .val (.ref bn0_1), .unset, .unset] [])) t → Steps p.tables e below (Tk0_3.setTop (mkF m 12 #[.val (.int p0_0), .val (.int p0_1), .val (.int p0_2), .val (.int p0_3), .val (.ref bn0_1), .unset, .unset] [(.int (p0_3 &&& (1 : Int32)))])) t := by
      intro t kt
      show Steps p.tables e below (Tk0_3.setTop (mkF m 12 #[.val (.int p0_0), .val (.int p0_1), .val (.int p0_2), .val (.int p0_3), .val (.ref bn0_1), .unset, .unset] [(.int (p0_3 &&& (1 : Int32)))])) _
      refine XS.ifYes Xk0_3.here hx rfl (pc0 := 12) (pc' := 24) rfl (hb hby at_12) rfl (XT.i0_eq_t hs0_7) (by decide) (by decide) ?_
      exact kt
    obtain ⟨Tj0_9, lj0_9, Xj0_9, Nj0_9, ej0_9, stj0_9⟩ : ∃ (T' : State) (l' : List Loc), Stand p l e room_1 s m #[(.int p0_0), (.int p0_1), (.int p0_2), (.int p0_3)] below meth c T' l' 1 2 ∧ Fr n0 l' ∧ T'.heap = hn0_1 ∧ ∀ target, Steps p.tables e below (T'.setTop (mkF m 42 #[.val (.int p0_0), .val (.int p0_1), .val (.int p0_2), .val (.int p0_3), .val (.ref bn0_1), .val (.double (own_j0_1 p0_2 p0_3)), .second] [])) target → Steps p.tables e below (Tk0_3.setTop (mkF m 31 #[.val (.int p0_0), .val (.int p0_1), .val (.int p0_2), .val (.int p0_3), .val (.ref bn0_1), .val (.double (FP.i2d p0_2)), .second] [(.int (p0_3 &&& (2 : Int32)))])) target := by
      by_cases hj0_9 : (p0_3 &&& (2 : Int32)) = (0 : Int32)
      · refine ⟨_, _, Xk0_3, Nk0_3, ek0_3, fun target kt => ?_⟩
        rw [(show (own_j0_1 p0_2 p0_3) = (FP.i2d p0_2) from if_pos hj0_9)] at kt
        show Steps p.tables e below (Tk0_3.setTop (mkF m 31 #[.val (.int p0_0), .val (.int p0_1), .val (.int p0_2), .val (.int p0_3), .val (.ref bn0_1), .val (.double (FP.i2d p0_2)), .second] [(.int (p0_3 &&& (2 : Int32)))])) _
        refine XS.ifYes Xk0_3.here hx rfl (pc0 := 31) (pc' := 42) rfl (hb hby at_31) rfl (XT.i0_eq_t hj0_9) (by decide) (by decide) ?_
        exact kt
      · refine ⟨_, _, Xk0_3, Nk0_3, ek0_3, fun target kt => ?_⟩
        rw [(show (own_j0_1 p0_2 p0_3) = (own_v0_0 p0_2) from if_neg hj0_9)] at kt
        show Steps p.tables e below (Tk0_3.setTop (mkF m 31 #[.val (.int p0_0), .val (.int p0_1), .val (.int p0_2), .val (.int p0_3), .val (.ref bn0_1), .val (.double (FP.i2d p0_2)), .second] [(.int (p0_3 &&& (2 : Int32)))])) _
        refine XS.ifNo Xk0_3.here hx rfl (hb hby at_31) rfl (XT.i0_eq_f hj0_9) ?_
        show Steps p.tables e below (Tk0_3.setTop (mkF m 34 #[.val (.int p0_0), .val (.int p0_1), .val (.int p0_2), .val (.int p0_3), .val (.ref bn0_1), .val (.double (FP.i2d p0_2)), .second] [])) _
        refine XS.iloadN Xk0_3.here hx rfl (hb hby at_34) rfl ?_
        show Steps p.tables e below (Tk0_3.setTop (mkF m 35 #[.val (.int p0_0), .val (.int p0_1), .val (.int p0_2), .val (.int p0_3), .val (.ref bn0_1), .val (.double (FP.i2d p0_2)), .second] [(.int p0_2)])) _
        refine XS.i2dS Xk0_3.here hx rfl (hb hby at_35) rfl rfl ?_
        show Steps p.tables e below (Tk0_3.setTop (mkF m 36 #[.val (.int p0_0), .val (.int p0_1), .val (.int p0_2), .val (.int p0_3), .val (.ref bn0_1), .val (.double (FP.i2d p0_2)), .second] [(.double (FP.i2d p0_2))])) _
        refine Xk0_3.ldc2DoubleC hx hown (mvT hZ (hw _ (List.mem_of_getElem? (i := 38) rfl))) (g := (mkF m 36 #[.val (.int p0_0), .val (.int p0_1), .val (.int p0_2), .val (.int p0_3), .val (.ref bn0_1), .val (.double (FP.i2d p0_2)), .second] [(.double (FP.i2d p0_2))])) rfl (hb hby at_36) _ ?_
        show Steps p.tables e below (Tk0_3.setTop (mkF m 39 #[.val (.int p0_0), .val (.int p0_1), .val (.int p0_2), .val (.int p0_3), .val (.ref bn0_1), .val (.double (FP.i2d p0_2)), .second] [(.double (4787326403894837248 : UInt64)), (.double (FP.i2d p0_2))])) _
        refine XS.dmulS Xk0_3.here hx rfl (hb hby at_39) rfl nn39 rfl ?_
        show Steps p.tables e below (Tk0_3.setTop (mkF m 40 #[.val (.int p0_0), .val (.int p0_1), .val (.int p0_2), .val (.int p0_3), .val (.ref bn0_1), .val (.double (FP.i2d p0_2)), .second] [(.double (FP.dmul (FP.i2d p0_2) (4787326403894837248 : UInt64)))])) _
        refine XS.dstore Xk0_3.here hx rfl (hb hby at_40) rfl (l' := #[.val (.int p0_0), .val (.int p0_1), .val (.int p0_2), .val (.int p0_3), .val (.ref bn0_1), .val (.double (own_v0_0 p0_2)), .second]) rfl ?_
        exact kt
    obtain ⟨cqk0_10, kqk0_10, qk0_10a, qk0_10b, qk0_10c⟩ := isOf hZ ej0_9 An0_1
    obtain ⟨_, _, ⟨Tk0_10, Lk0_10, kk0_10, nk0_10⟩, -, Xk0_10, ⟨Lck0_10, hQk0_10, lk0_10, yk0_10, zk0_10⟩, stk0_10⟩ := Xj0_9.virtualBack hx (y := (⟨"com/example/groundpass/groundpass/PreciseSum", "set", "(D)V"⟩ : MethodName)) (z := (⟨"com/example/groundpass/groundpass/PreciseSum", "set", "(D)V"⟩ : MethodName)) hown (mvT hZ (hw _ (List.mem_of_getElem? (i := 18) rfl))) (mvT hZ (hw _ (List.mem_of_getElem? (i := 19) rfl))) (notFace_of_selects (args := #[]) (mvT hZ (hw _ (List.mem_of_getElem? (i := 21) rfl)))) (mvT hZ (hw _ (List.mem_of_getElem? (i := 21) rfl))) (mvT hZ (hw _ (List.mem_of_getElem? (i := 20) rfl))) (by decide) (backOf (W := 0) (own_rm4 l Z a0 hw [] bn0_1 (own_j0_1 p0_2 p0_3) (.double (0 : UInt64)) (.double (0 : UInt64)) hn0_1 n0 (Nat.le_trans Z0 sz0_2) An0_1 F_high_bn0_1 g_bn0_1 F_low_bn0_1) hZ (hw _ (List.mem_of_getElem? (i := 22) rfl)) (hw _ (List.mem_of_getElem? (i := 2) rfl)) (by decide) (by decide)) qk0_10a qk0_10c (g := (mkF m 46 #[.val (.int p0_0), .val (.int p0_1), .val (.int p0_2), .val (.int p0_3), .val (.ref bn0_1), .val (.double (own_j0_1 p0_2 p0_3)), .second] [(.double (own_j0_1 p0_2 p0_3)), (.ref bn0_1)])) rfl (by rw [hml]; rfl) (Steps.refl _) (argsL := [(.double (own_j0_1 p0_2 p0_3))]) (rest := []) (lenOf own_pd2 rfl) rfl (by show 2 * 0 + _ ≤ _; exact Nat.le_of_eq rfl) (hb hby at_46) (fun _ _ => ⟨rfl, ej0_9, (by decide : 1 + 0 ≤ _), (by decide : 2 + 0 ≤ _)⟩)
    dsimp only [Pt.U, Pt.locs, Pt.cells, Pt.slots] at Xk0_10 lk0_10 yk0_10 zk0_10 stk0_10 hQk0_10
    subst lk0_10 yk0_10 zk0_10
    obtain ⟨rfl, Nk0_10q, Kk0_10, Qk0_10_0, Qk0_10_1, Qk0_10_2⟩ := hQk0_10
    have sz0_11 : h0.size ≤ Tk0_10.heap.size := Nat.le_trans sz0_2 Kk0_10.1
    have Nk0_10 := Fr.app Nj0_9 Nk0_10q
    obtain ⟨cqk0_12, kqk0_12, qk0_12a, qk0_12b, qk0_12c⟩ := isOf hZ rfl Qk0_10_0
    obtain ⟨_, _, ⟨Tk0_12, Lk0_12, kk0_12, nk0_12⟩, -, Xk0_12, ⟨Lck0_12, hQk0_12, lk0_12, yk0_12, zk0_12⟩, stk0_12⟩ := Xk0_10.virtualBack hx (y := (⟨"com/example/groundpass/groundpass/PreciseSum", "value", "()D"⟩ : MethodName)) (z := (⟨"com/example/groundpass/groundpass/PreciseSum", "value", "()D"⟩ : MethodName)) hown (mvT hZ (hw _ (List.mem_of_getElem? (i := 23) rfl))) (mvT hZ (hw _ (List.mem_of_getElem? (i := 24) rfl))) (notFace_of_selects (args := #[]) (mvT hZ (hw _ (List.mem_of_getElem? (i := 26) rfl)))) (mvT hZ (hw _ (List.mem_of_getElem? (i := 26) rfl))) (mvT hZ (hw _ (List.mem_of_getElem? (i := 25) rfl))) (by decide) (backOf (W := 0) (own_rm5 l Z a0 hw [] bn0_1 (own_j0_1 p0_2 p0_3) Tk0_10.heap n0 (Nat.le_trans Z0 sz0_11) Qk0_10_1) hZ (hw _ (List.mem_of_getElem? (i := 27) rfl)) (hw _ (List.mem_of_getElem? (i := 2) rfl)) (by decide) (by decide)) qk0_12a qk0_12c (g := (mkF m 51 #[.val (.int p0_0), .val (.int p0_1), .val (.int p0_2), .val (.int p0_3), .val (.ref bn0_1), .val (.double (own_j0_1 p0_2 p0_3)), .second] [(.ref bn0_1)])) rfl (by rw [hml]; rfl) (Steps.refl _) (argsL := []) (rest := []) (lenOf own_pd3 rfl) rfl (by show 2 * 0 + _ ≤ _; exact Nat.le_of_eq rfl) (hb hby at_51) (fun _ _ => ⟨rfl, rfl, (by decide : 1 + 0 ≤ _), (by decide : 2 + 0 ≤ _)⟩)
    dsimp only [Pt.U, Pt.locs, Pt.cells, Pt.slots] at Xk0_12 lk0_12 yk0_12 zk0_12 stk0_12 hQk0_12
    subst lk0_12 yk0_12 zk0_12
    obtain ⟨rfl, Nk0_12q, ek0_12⟩ := hQk0_12
    have Nk0_12 := Fr.app Nk0_10 Nk0_12q
    obtain ⟨cqk0_13, kqk0_13, qk0_13a, qk0_13b, qk0_13c⟩ := isOf hZ ek0_12 Qk0_10_0
    obtain ⟨_, _, ⟨Tk0_13, Lk0_13, kk0_13, nk0_13⟩, -, Xk0_13, ⟨Lck0_13, hQk0_13, lk0_13, yk0_13, zk0_13⟩, stk0_13⟩ := Xk0_12.virtualBack hx (y := (⟨"com/example/groundpass/groundpass/PreciseSum", "rest", "()D"⟩ : MethodName)) (z := (⟨"com/example/groundpass/groundpass/PreciseSum", "rest", "()D"⟩ : MethodName)) hown (mvT hZ (hw _ (List.mem_of_getElem? (i := 28) rfl))) (mvT hZ (hw _ (List.mem_of_getElem? (i := 29) rfl))) (notFace_of_selects (args := #[]) (mvT hZ (hw _ (List.mem_of_getElem? (i := 31) rfl)))) (mvT hZ (hw _ (List.mem_of_getElem? (i := 31) rfl))) (mvT hZ (hw _ (List.mem_of_getElem? (i := 30) rfl))) (by decide) (backOf (W := 0) (own_rm6 l Z a0 hw [] bn0_1 (0 : UInt64) Tk0_10.heap n0 (Nat.le_trans Z0 sz0_11) Qk0_10_2) hZ (hw _ (List.mem_of_getElem? (i := 32) rfl)) (hw _ (List.mem_of_getElem? (i := 2) rfl)) (by decide) (by decide)) qk0_13a qk0_13c (g := (mkF m 62 #[.val (.int p0_0), .val (.int p0_1), .val (.int p0_2), .val (.int p0_3), .val (.ref bn0_1), .val (.double (own_j0_1 p0_2 p0_3)), .second] [(.ref bn0_1)])) rfl (by rw [hml]; rfl) (Steps.refl _) (argsL := []) (rest := []) (lenOf own_pd3 rfl) rfl (by show 2 * 0 + _ ≤ _; exact Nat.le_of_eq rfl) (hb hby at_62) (fun _ _ => ⟨rfl, ek0_12, (by decide : 1 + 0 ≤ _), (by decide : 2 + 0 ≤ _)⟩)
    dsimp only [Pt.U, Pt.locs, Pt.cells, Pt.slots] at Xk0_13 lk0_13 yk0_13 zk0_13 stk0_13 hQk0_13
    subst lk0_13 yk0_13 zk0_13
    obtain ⟨rfl, Nk0_13q, ek0_13⟩ := hQk0_13
    have Nk0_13 := Fr.app Nk0_12 Nk0_13q
    obtain ⟨cqk0_14, kqk0_14, qk0_14a, qk0_14b, qk0_14c⟩ := isOf hZ ek0_13 Qk0_10_0
    obtain ⟨_, _, ⟨Tk0_14, Lk0_14, kk0_14, nk0_14⟩, -, Xk0_14, ⟨Lck0_14, hQk0_14, lk0_14, yk0_14, zk0_14⟩, stk0_14⟩ := Xk0_13.virtualBack hx (y := (⟨"com/example/groundpass/groundpass/PreciseSum", "below", "(DD)D"⟩ : MethodName)) (z := (⟨"com/example/groundpass/groundpass/PreciseSum", "below", "(DD)D"⟩ : MethodName)) hown (mvT hZ (hw _ (List.mem_of_getElem? (i := 33) rfl))) (mvT hZ (hw _ (List.mem_of_getElem? (i := 34) rfl))) (notFace_of_selects (args := #[]) (mvT hZ (hw _ (List.mem_of_getElem? (i := 36) rfl)))) (mvT hZ (hw _ (List.mem_of_getElem? (i := 36) rfl))) (mvT hZ (hw _ (List.mem_of_getElem? (i := 35) rfl))) (by decide) (backOf (W := 0) (own_rm7 l Z a0 hw [] bn0_1 (own_j0_1 p0_2 p0_3) (0 : UInt64) (own_j0_1 p0_2 p0_3) (0 : UInt64) Tk0_10.heap n0 (Nat.le_trans Z0 sz0_11) Qk0_10_1 Qk0_10_2 c75_nn5 c75_nn11 c75_nn12) hZ (hw _ (List.mem_of_getElem? (i := 37) rfl)) (hw _ (List.mem_of_getElem? (i := 2) rfl)) (by decide) (by decide)) qk0_14a qk0_14c (g := (mkF m 75 #[.val (.int p0_0), .val (.int p0_1), .val (.int p0_2), .val (.int p0_3), .val (.ref bn0_1), .val (.double (own_j0_1 p0_2 p0_3)), .second] [(.double (0 : UInt64)), (.double (own_j0_1 p0_2 p0_3)), (.ref bn0_1)])) rfl (by rw [hml]; rfl) (Steps.refl _) (argsL := [(.double (own_j0_1 p0_2 p0_3)), (.double (0 : UInt64))]) (rest := []) (lenOf own_pd4 rfl) rfl (by show 2 * 0 + _ ≤ _; exact Nat.le_of_eq rfl) (hb hby at_75) (fun _ _ => ⟨rfl, ek0_13, (by decide : 1 + 0 ≤ _), (by decide : 2 + 0 ≤ _)⟩)
    dsimp only [Pt.U, Pt.locs, Pt.cells, Pt.slots] at Xk0_14 lk0_14 yk0_14 zk0_14 stk0_14 hQk0_14
    subst lk0_14 yk0_14 zk0_14
    obtain ⟨rfl, Nk0_14q, ek0_14⟩ := hQk0_14
    have Nk0_14 := Fr.app Nk0_13 Nk0_14q
    obtain ⟨fs, hr, hrun, hended, hW, hsame⟩ := Xk0_14.leave (v := some (.int (1 : Int32))) (fun h => by rw [Bd.returns] at h; cases h)
    refine ⟨_, _, pre0 _ (Ks0_7 _ (K0_8 _ (?_))), hrun, hended, _, _, rfl, ?_, ⟨_, rfl⟩, hW, hsame.mono (by decide) (by decide)⟩
    · show Steps p.tables e below (Tk0_3.setTop (mkF m 24 #[.val (.int p0_0), .val (.int p0_1), .val (.int p0_2), .val (.int p0_3), .val (.ref bn0_1), .unset, .unset] [])) _
      refine XS.iloadN Xk0_3.here hx rfl (hb hby at_24) rfl ?_
      show Steps p.tables e below (Tk0_3.setTop (mkF m 25 #[.val (.int p0_0), .val (.int p0_1), .val (.int p0_2), .val (.int p0_3), .val (.ref bn0_1), .unset, .unset] [(.int p0_2)])) _
      refine XS.i2dS Xk0_3.here hx rfl (hb hby at_25) rfl rfl ?_
      show Steps p.tables e below (Tk0_3.setTop (mkF m 26 #[.val (.int p0_0), .val (.int p0_1), .val (.int p0_2), .val (.int p0_3), .val (.ref bn0_1), .unset, .unset] [(.double (FP.i2d p0_2))])) _
      refine XS.dstore Xk0_3.here hx rfl (hb hby at_26) rfl (l' := #[.val (.int p0_0), .val (.int p0_1), .val (.int p0_2), .val (.int p0_3), .val (.ref bn0_1), .val (.double (FP.i2d p0_2)), .second]) rfl ?_
      show Steps p.tables e below (Tk0_3.setTop (mkF m 28 #[.val (.int p0_0), .val (.int p0_1), .val (.int p0_2), .val (.int p0_3), .val (.ref bn0_1), .val (.double (FP.i2d p0_2)), .second] [])) _
      refine XS.iloadN Xk0_3.here hx rfl (hb hby at_28) rfl ?_
      show Steps p.tables e below (Tk0_3.setTop (mkF m 29 #[.val (.int p0_0), .val (.int p0_1), .val (.int p0_2), .val (.int p0_3), .val (.ref bn0_1), .val (.double (FP.i2d p0_2)), .second] [(.int p0_3)])) _
      refine XS.iconst Xk0_3.here hx rfl (hb hby at_29) ?_
      show Steps p.tables e below (Tk0_3.setTop (mkF m 30 #[.val (.int p0_0), .val (.int p0_1), .val (.int p0_2), .val (.int p0_3), .val (.ref bn0_1), .val (.double (FP.i2d p0_2)), .second] [(.int (2 : Int32)), (.int p0_3)])) _
      refine XS.iand Xk0_3.here hx rfl (hb hby at_30) rfl ?_
      show Steps p.tables e below (Tk0_3.setTop (mkF m 31 #[.val (.int p0_0), .val (.int p0_1), .val (.int p0_2), .val (.int p0_3), .val (.ref bn0_1), .val (.double (FP.i2d p0_2)), .second] [(.int (p0_3 &&& (2 : Int32)))])) _
      refine stj0_9 _ ?_
      show Steps p.tables e below (Tj0_9.setTop (mkF m 42 #[.val (.int p0_0), .val (.int p0_1), .val (.int p0_2), .val (.int p0_3), .val (.ref bn0_1), .val (.double (own_j0_1 p0_2 p0_3)), .second] [])) _
      refine XS.aload Xj0_9.here hx rfl (hb hby at_42) rfl rfl ?_
      show Steps p.tables e below (Tj0_9.setTop (mkF m 44 #[.val (.int p0_0), .val (.int p0_1), .val (.int p0_2), .val (.int p0_3), .val (.ref bn0_1), .val (.double (own_j0_1 p0_2 p0_3)), .second] [(.ref bn0_1)])) _
      refine XS.dload Xj0_9.here hx rfl (hb hby at_44) rfl ?_
      show Steps p.tables e below (Tj0_9.setTop (mkF m 46 #[.val (.int p0_0), .val (.int p0_1), .val (.int p0_2), .val (.int p0_3), .val (.ref bn0_1), .val (.double (own_j0_1 p0_2 p0_3)), .second] [(.double (own_j0_1 p0_2 p0_3)), (.ref bn0_1)])) _
      refine stk0_10.trans ?_
      show Steps p.tables e below (Tk0_10.setTop (mkF m 49 #[.val (.int p0_0), .val (.int p0_1), .val (.int p0_2), .val (.int p0_3), .val (.ref bn0_1), .val (.double (own_j0_1 p0_2 p0_3)), .second] [])) _
      refine XS.aload Xk0_10.here hx rfl (hb hby at_49) rfl rfl ?_
      show Steps p.tables e below (Tk0_10.setTop (mkF m 51 #[.val (.int p0_0), .val (.int p0_1), .val (.int p0_2), .val (.int p0_3), .val (.ref bn0_1), .val (.double (own_j0_1 p0_2 p0_3)), .second] [(.ref bn0_1)])) _
      refine stk0_12.trans ?_
      show Steps p.tables e below (Tk0_12.setTop (mkF m 54 #[.val (.int p0_0), .val (.int p0_1), .val (.int p0_2), .val (.int p0_3), .val (.ref bn0_1), .val (.double (own_j0_1 p0_2 p0_3)), .second] [(.double (own_j0_1 p0_2 p0_3))])) _
      refine XS.dload Xk0_12.here hx rfl (hb hby at_54) rfl ?_
      show Steps p.tables e below (Tk0_12.setTop (mkF m 56 #[.val (.int p0_0), .val (.int p0_1), .val (.int p0_2), .val (.int p0_3), .val (.ref bn0_1), .val (.double (own_j0_1 p0_2 p0_3)), .second] [(.double (own_j0_1 p0_2 p0_3)), (.double (own_j0_1 p0_2 p0_3))])) _
      refine XS.dcmpS Xk0_12.here hx rfl (hb hby at_56) rfl rfl ?_
      show Steps p.tables e below (Tk0_12.setTop (mkF m 57 #[.val (.int p0_0), .val (.int p0_1), .val (.int p0_2), .val (.int p0_3), .val (.ref bn0_1), .val (.double (own_j0_1 p0_2 p0_3)), .second] [(.int (cmpValue (FP.dcmp (own_j0_1 p0_2 p0_3) (own_j0_1 p0_2 p0_3)) .l))])) _
      refine XS.ifNo Xk0_12.here hx rfl (hb hby at_57) rfl (XT.i0_ne_f hc57) ?_
      show Steps p.tables e below (Tk0_12.setTop (mkF m 60 #[.val (.int p0_0), .val (.int p0_1), .val (.int p0_2), .val (.int p0_3), .val (.ref bn0_1), .val (.double (own_j0_1 p0_2 p0_3)), .second] [])) _
      refine XS.aload Xk0_12.here hx rfl (hb hby at_60) rfl rfl ?_
      show Steps p.tables e below (Tk0_12.setTop (mkF m 62 #[.val (.int p0_0), .val (.int p0_1), .val (.int p0_2), .val (.int p0_3), .val (.ref bn0_1), .val (.double (own_j0_1 p0_2 p0_3)), .second] [(.ref bn0_1)])) _
      refine stk0_13.trans ?_
      show Steps p.tables e below (Tk0_13.setTop (mkF m 65 #[.val (.int p0_0), .val (.int p0_1), .val (.int p0_2), .val (.int p0_3), .val (.ref bn0_1), .val (.double (own_j0_1 p0_2 p0_3)), .second] [(.double (0 : UInt64))])) _
      refine XS.dconst0 Xk0_13.here hx rfl (hb hby at_65) (v := (0 : UInt64)) (by decide +kernel) ?_
      show Steps p.tables e below (Tk0_13.setTop (mkF m 66 #[.val (.int p0_0), .val (.int p0_1), .val (.int p0_2), .val (.int p0_3), .val (.ref bn0_1), .val (.double (own_j0_1 p0_2 p0_3)), .second] [(.double (0 : UInt64)), (.double (0 : UInt64))])) _
      refine XS.dcmpS Xk0_13.here hx rfl (hb hby at_66) rfl rfl ?_
      show Steps p.tables e below (Tk0_13.setTop (mkF m 67 #[.val (.int p0_0), .val (.int p0_1), .val (.int p0_2), .val (.int p0_3), .val (.ref bn0_1), .val (.double (own_j0_1 p0_2 p0_3)), .second] [(.int (cmpValue (FP.dcmp (0 : UInt64) (0 : UInt64)) .l))])) _
      refine XS.ifNo Xk0_13.here hx rfl (hb hby at_67) rfl (XT.i0_ne_f hc67) ?_
      show Steps p.tables e below (Tk0_13.setTop (mkF m 70 #[.val (.int p0_0), .val (.int p0_1), .val (.int p0_2), .val (.int p0_3), .val (.ref bn0_1), .val (.double (own_j0_1 p0_2 p0_3)), .second] [])) _
      refine XS.aload Xk0_13.here hx rfl (hb hby at_70) rfl rfl ?_
      show Steps p.tables e below (Tk0_13.setTop (mkF m 72 #[.val (.int p0_0), .val (.int p0_1), .val (.int p0_2), .val (.int p0_3), .val (.ref bn0_1), .val (.double (own_j0_1 p0_2 p0_3)), .second] [(.ref bn0_1)])) _
      refine XS.dload Xk0_13.here hx rfl (hb hby at_72) rfl ?_
      show Steps p.tables e below (Tk0_13.setTop (mkF m 74 #[.val (.int p0_0), .val (.int p0_1), .val (.int p0_2), .val (.int p0_3), .val (.ref bn0_1), .val (.double (own_j0_1 p0_2 p0_3)), .second] [(.double (own_j0_1 p0_2 p0_3)), (.ref bn0_1)])) _
      refine XS.dconst0 Xk0_13.here hx rfl (hb hby at_74) (v := (0 : UInt64)) (by decide +kernel) ?_
      show Steps p.tables e below (Tk0_13.setTop (mkF m 75 #[.val (.int p0_0), .val (.int p0_1), .val (.int p0_2), .val (.int p0_3), .val (.ref bn0_1), .val (.double (own_j0_1 p0_2 p0_3)), .second] [(.double (0 : UInt64)), (.double (own_j0_1 p0_2 p0_3)), (.ref bn0_1)])) _
      refine stk0_14.trans ?_
      show Steps p.tables e below (Tk0_14.setTop (mkF m 78 #[.val (.int p0_0), .val (.int p0_1), .val (.int p0_2), .val (.int p0_3), .val (.ref bn0_1), .val (.double (own_j0_1 p0_2 p0_3)), .second] [(.double (own_r7_0 (own_j0_1 p0_2 p0_3) (0 : UInt64) (own_j0_1 p0_2 p0_3) (0 : UInt64)))])) _
      refine XS.dconst0 Xk0_14.here hx rfl (hb hby at_78) (v := (0 : UInt64)) (by decide +kernel) ?_
      show Steps p.tables e below (Tk0_14.setTop (mkF m 79 #[.val (.int p0_0), .val (.int p0_1), .val (.int p0_2), .val (.int p0_3), .val (.ref bn0_1), .val (.double (own_j0_1 p0_2 p0_3)), .second] [(.double (0 : UInt64)), (.double (own_r7_0 (own_j0_1 p0_2 p0_3) (0 : UInt64) (own_j0_1 p0_2 p0_3) (0 : UInt64)))])) _
      refine XS.dcmpS Xk0_14.here hx rfl (hb hby at_79) rfl rfl ?_
      show Steps p.tables e below (Tk0_14.setTop (mkF m 80 #[.val (.int p0_0), .val (.int p0_1), .val (.int p0_2), .val (.int p0_3), .val (.ref bn0_1), .val (.double (own_j0_1 p0_2 p0_3)), .second] [(.int (cmpValue (FP.dcmp (own_r7_0 (own_j0_1 p0_2 p0_3) (0 : UInt64) (own_j0_1 p0_2 p0_3) (0 : UInt64)) (0 : UInt64)) .l))])) _
      refine XS.ifNo Xk0_14.here hx rfl (hb hby at_80) rfl (XT.i0_ne_f hc80) ?_
      show Steps p.tables e below (Tk0_14.setTop (mkF m 83 #[.val (.int p0_0), .val (.int p0_1), .val (.int p0_2), .val (.int p0_3), .val (.ref bn0_1), .val (.double (own_j0_1 p0_2 p0_3)), .second] [])) _
      refine XS.iconst Xk0_14.here hx rfl (hb hby at_83) ?_
      show Steps p.tables e below (Tk0_14.setTop (mkF m 84 #[.val (.int p0_0), .val (.int p0_1), .val (.int p0_2), .val (.int p0_3), .val (.ref bn0_1), .val (.double (own_j0_1 p0_2 p0_3)), .second] [(.int (1 : Int32))])) _
      refine XS.goto Xk0_14.here hx rfl (pc0 := 84) (pc' := 88) rfl (hb hby at_84) (by decide) (by decide) ?_
      show Steps p.tables e below (Tk0_14.setTop (mkF m 88 #[.val (.int p0_0), .val (.int p0_1), .val (.int p0_2), .val (.int p0_3), .val (.ref bn0_1), .val (.double (own_j0_1 p0_2 p0_3)), .second] [(.int (1 : Int32))])) _
      exact retN Xk0_14 hx (t := .boolean) Bd.returns (by simp) (hb hby at_88) hr
    · show own_Q0 Z p0_0 p0_1 p0_2 p0_3 h0 n0 _ Tk0_14.heap _
      rw [ek0_14]
      exact ⟨rfl, Nk0_14⟩
  · have K0_15 : ∀ t, Steps p.tables e below (Tk0_3.setTop (mkF m 15 #[.val (.int p0_0), .val (.int p0_1), .val (.int p0_2), .val (.int p0_3), .val (.ref bn0_1), .unset, .unset] [])) t → Steps p.tables e below (Tk0_3.setTop (mkF m 12 #[.val (.int p0_0), .val (.int p0_1), .val (.int p0_2), .val (.int p0_3), .val (.ref bn0_1), .unset, .unset] [(.int (p0_3 &&& (1 : Int32)))])) t := by
      intro t kt
      show Steps p.tables e below (Tk0_3.setTop (mkF m 12 #[.val (.int p0_0), .val (.int p0_1), .val (.int p0_2), .val (.int p0_3), .val (.ref bn0_1), .unset, .unset] [(.int (p0_3 &&& (1 : Int32)))])) _
      refine XS.ifNo Xk0_3.here hx rfl (hb hby at_12) rfl (XT.i0_eq_f hs0_7) ?_
      exact kt
    obtain ⟨cqk0_16, kqk0_16, qk0_16a, qk0_16b, qk0_16c⟩ := isOf hZ ek0_3 An0_1
    obtain ⟨_, _, ⟨Tk0_16, Lk0_16, kk0_16, nk0_16⟩, -, Xk0_16, ⟨Lck0_16, hQk0_16, lk0_16, yk0_16, zk0_16⟩, stk0_16⟩ := Xk0_3.virtualBack hx (y := (⟨"com/example/groundpass/groundpass/PreciseSum", "set", "(DD)V"⟩ : MethodName)) (z := (⟨"com/example/groundpass/groundpass/PreciseSum", "set", "(DD)V"⟩ : MethodName)) hown (mvT hZ (hw _ (List.mem_of_getElem? (i := 9) rfl))) (mvT hZ (hw _ (List.mem_of_getElem? (i := 10) rfl))) (notFace_of_selects (args := #[]) (mvT hZ (hw _ (List.mem_of_getElem? (i := 12) rfl)))) (mvT hZ (hw _ (List.mem_of_getElem? (i := 12) rfl))) (mvT hZ (hw _ (List.mem_of_getElem? (i := 11) rfl))) (by decide) (backOf (W := 0) (own_rm3 l Z a0 hw [] bn0_1 (FP.i2d p0_0) (FP.i2d p0_1) (.double (0 : UInt64)) (.double (0 : UInt64)) hn0_1 n0 (Nat.le_trans Z0 sz0_2) An0_1 F_high_bn0_1 g_bn0_1 F_low_bn0_1) hZ (hw _ (List.mem_of_getElem? (i := 13) rfl)) (hw _ (List.mem_of_getElem? (i := 2) rfl)) (by decide) (by decide)) qk0_16a qk0_16c (g := (mkF m 21 #[.val (.int p0_0), .val (.int p0_1), .val (.int p0_2), .val (.int p0_3), .val (.ref bn0_1), .unset, .unset] [(.double (FP.i2d p0_1)), (.double (FP.i2d p0_0)), (.ref bn0_1)])) rfl (by rw [hml]; rfl) (Steps.refl _) (argsL := [(.double (FP.i2d p0_0)), (.double (FP.i2d p0_1))]) (rest := []) (lenOf own_pd1 rfl) rfl (by show 2 * 0 + _ ≤ _; exact Nat.le_of_eq rfl) (hb hby at_21) (fun _ _ => ⟨rfl, ek0_3, (by decide : 1 + 0 ≤ _), (by decide : 2 + 0 ≤ _)⟩)
    dsimp only [Pt.U, Pt.locs, Pt.cells, Pt.slots] at Xk0_16 lk0_16 yk0_16 zk0_16 stk0_16 hQk0_16
    subst lk0_16 yk0_16 zk0_16
    obtain ⟨rfl, Nk0_16q, Kk0_16, Qk0_16_0, Qk0_16_1, Qk0_16_2⟩ := hQk0_16
    have sz0_17 : h0.size ≤ Tk0_16.heap.size := Nat.le_trans sz0_2 Kk0_16.1
    have Nk0_16 := Fr.app Nk0_3 Nk0_16q
    obtain ⟨Tj0_18, lj0_18, Xj0_18, Nj0_18, ej0_18, stj0_18⟩ : ∃ (T' : State) (l' : List Loc), Stand p l e room_1 s m #[(.int p0_0), (.int p0_1), (.int p0_2), (.int p0_3)] below meth c T' l' 1 2 ∧ Fr n0 l' ∧ T'.heap = Tk0_16.heap ∧ ∀ target, Steps p.tables e below (T'.setTop (mkF m 42 #[.val (.int p0_0), .val (.int p0_1), .val (.int p0_2), .val (.int p0_3), .val (.ref bn0_1), .val (.double (own_j0_1 p0_2 p0_3)), .second] [])) target → Steps p.tables e below (Tk0_16.setTop (mkF m 31 #[.val (.int p0_0), .val (.int p0_1), .val (.int p0_2), .val (.int p0_3), .val (.ref bn0_1), .val (.double (FP.i2d p0_2)), .second] [(.int (p0_3 &&& (2 : Int32)))])) target := by
      by_cases hj0_18 : (p0_3 &&& (2 : Int32)) = (0 : Int32)
      · refine ⟨_, _, Xk0_16, Nk0_16, rfl, fun target kt => ?_⟩
        rw [(show (own_j0_1 p0_2 p0_3) = (FP.i2d p0_2) from if_pos hj0_18)] at kt
        show Steps p.tables e below (Tk0_16.setTop (mkF m 31 #[.val (.int p0_0), .val (.int p0_1), .val (.int p0_2), .val (.int p0_3), .val (.ref bn0_1), .val (.double (FP.i2d p0_2)), .second] [(.int (p0_3 &&& (2 : Int32)))])) _
        refine XS.ifYes Xk0_16.here hx rfl (pc0 := 31) (pc' := 42) rfl (hb hby at_31) rfl (XT.i0_eq_t hj0_18) (by decide) (by decide) ?_
        exact kt
      · refine ⟨_, _, Xk0_16, Nk0_16, rfl, fun target kt => ?_⟩
        rw [(show (own_j0_1 p0_2 p0_3) = (own_v0_0 p0_2) from if_neg hj0_18)] at kt
        show Steps p.tables e below (Tk0_16.setTop (mkF m 31 #[.val (.int p0_0), .val (.int p0_1), .val (.int p0_2), .val (.int p0_3), .val (.ref bn0_1), .val (.double (FP.i2d p0_2)), .second] [(.int (p0_3 &&& (2 : Int32)))])) _
        refine XS.ifNo Xk0_16.here hx rfl (hb hby at_31) rfl (XT.i0_eq_f hj0_18) ?_
        show Steps p.tables e below (Tk0_16.setTop (mkF m 34 #[.val (.int p0_0), .val (.int p0_1), .val (.int p0_2), .val (.int p0_3), .val (.ref bn0_1), .val (.double (FP.i2d p0_2)), .second] [])) _
        refine XS.iloadN Xk0_16.here hx rfl (hb hby at_34) rfl ?_
        show Steps p.tables e below (Tk0_16.setTop (mkF m 35 #[.val (.int p0_0), .val (.int p0_1), .val (.int p0_2), .val (.int p0_3), .val (.ref bn0_1), .val (.double (FP.i2d p0_2)), .second] [(.int p0_2)])) _
        refine XS.i2dS Xk0_16.here hx rfl (hb hby at_35) rfl rfl ?_
        show Steps p.tables e below (Tk0_16.setTop (mkF m 36 #[.val (.int p0_0), .val (.int p0_1), .val (.int p0_2), .val (.int p0_3), .val (.ref bn0_1), .val (.double (FP.i2d p0_2)), .second] [(.double (FP.i2d p0_2))])) _
        refine Xk0_16.ldc2DoubleC hx hown (mvT hZ (hw _ (List.mem_of_getElem? (i := 38) rfl))) (g := (mkF m 36 #[.val (.int p0_0), .val (.int p0_1), .val (.int p0_2), .val (.int p0_3), .val (.ref bn0_1), .val (.double (FP.i2d p0_2)), .second] [(.double (FP.i2d p0_2))])) rfl (hb hby at_36) _ ?_
        show Steps p.tables e below (Tk0_16.setTop (mkF m 39 #[.val (.int p0_0), .val (.int p0_1), .val (.int p0_2), .val (.int p0_3), .val (.ref bn0_1), .val (.double (FP.i2d p0_2)), .second] [(.double (4787326403894837248 : UInt64)), (.double (FP.i2d p0_2))])) _
        refine XS.dmulS Xk0_16.here hx rfl (hb hby at_39) rfl nn39 rfl ?_
        show Steps p.tables e below (Tk0_16.setTop (mkF m 40 #[.val (.int p0_0), .val (.int p0_1), .val (.int p0_2), .val (.int p0_3), .val (.ref bn0_1), .val (.double (FP.i2d p0_2)), .second] [(.double (FP.dmul (FP.i2d p0_2) (4787326403894837248 : UInt64)))])) _
        refine XS.dstore Xk0_16.here hx rfl (hb hby at_40) rfl (l' := #[.val (.int p0_0), .val (.int p0_1), .val (.int p0_2), .val (.int p0_3), .val (.ref bn0_1), .val (.double (own_v0_0 p0_2)), .second]) rfl ?_
        exact kt
    obtain ⟨cqk0_19, kqk0_19, qk0_19a, qk0_19b, qk0_19c⟩ := isOf hZ ej0_18 Qk0_16_0
    obtain ⟨_, _, ⟨Tk0_19, Lk0_19, kk0_19, nk0_19⟩, -, Xk0_19, ⟨Lck0_19, hQk0_19, lk0_19, yk0_19, zk0_19⟩, stk0_19⟩ := Xj0_18.virtualBack hx (y := (⟨"com/example/groundpass/groundpass/PreciseSum", "set", "(D)V"⟩ : MethodName)) (z := (⟨"com/example/groundpass/groundpass/PreciseSum", "set", "(D)V"⟩ : MethodName)) hown (mvT hZ (hw _ (List.mem_of_getElem? (i := 18) rfl))) (mvT hZ (hw _ (List.mem_of_getElem? (i := 19) rfl))) (notFace_of_selects (args := #[]) (mvT hZ (hw _ (List.mem_of_getElem? (i := 21) rfl)))) (mvT hZ (hw _ (List.mem_of_getElem? (i := 21) rfl))) (mvT hZ (hw _ (List.mem_of_getElem? (i := 20) rfl))) (by decide) (backOf (W := 0) (own_rm4 l Z a0 hw [] bn0_1 (own_j0_1 p0_2 p0_3) (.double (FP.i2d p0_0)) (.double (FP.i2d p0_1)) Tk0_16.heap n0 (Nat.le_trans Z0 sz0_17) Qk0_16_0 Qk0_16_1 g_bn0_1 Qk0_16_2) hZ (hw _ (List.mem_of_getElem? (i := 22) rfl)) (hw _ (List.mem_of_getElem? (i := 2) rfl)) (by decide) (by decide)) qk0_19a qk0_19c (g := (mkF m 46 #[.val (.int p0_0), .val (.int p0_1), .val (.int p0_2), .val (.int p0_3), .val (.ref bn0_1), .val (.double (own_j0_1 p0_2 p0_3)), .second] [(.double (own_j0_1 p0_2 p0_3)), (.ref bn0_1)])) rfl (by rw [hml]; rfl) (Steps.refl _) (argsL := [(.double (own_j0_1 p0_2 p0_3))]) (rest := []) (lenOf own_pd2 rfl) rfl (by show 2 * 0 + _ ≤ _; exact Nat.le_of_eq rfl) (hb hby at_46) (fun _ _ => ⟨rfl, ej0_18, (by decide : 1 + 0 ≤ _), (by decide : 2 + 0 ≤ _)⟩)
    dsimp only [Pt.U, Pt.locs, Pt.cells, Pt.slots] at Xk0_19 lk0_19 yk0_19 zk0_19 stk0_19 hQk0_19
    subst lk0_19 yk0_19 zk0_19
    obtain ⟨rfl, Nk0_19q, Kk0_19, Qk0_19_0, Qk0_19_1, Qk0_19_2⟩ := hQk0_19
    have sz0_20 : h0.size ≤ Tk0_19.heap.size := Nat.le_trans sz0_17 Kk0_19.1
    have Nk0_19 := Fr.app Nj0_18 Nk0_19q
    obtain ⟨cqk0_21, kqk0_21, qk0_21a, qk0_21b, qk0_21c⟩ := isOf hZ rfl Qk0_19_0
    obtain ⟨_, _, ⟨Tk0_21, Lk0_21, kk0_21, nk0_21⟩, -, Xk0_21, ⟨Lck0_21, hQk0_21, lk0_21, yk0_21, zk0_21⟩, stk0_21⟩ := Xk0_19.virtualBack hx (y := (⟨"com/example/groundpass/groundpass/PreciseSum", "value", "()D"⟩ : MethodName)) (z := (⟨"com/example/groundpass/groundpass/PreciseSum", "value", "()D"⟩ : MethodName)) hown (mvT hZ (hw _ (List.mem_of_getElem? (i := 23) rfl))) (mvT hZ (hw _ (List.mem_of_getElem? (i := 24) rfl))) (notFace_of_selects (args := #[]) (mvT hZ (hw _ (List.mem_of_getElem? (i := 26) rfl)))) (mvT hZ (hw _ (List.mem_of_getElem? (i := 26) rfl))) (mvT hZ (hw _ (List.mem_of_getElem? (i := 25) rfl))) (by decide) (backOf (W := 0) (own_rm5 l Z a0 hw [] bn0_1 (own_j0_1 p0_2 p0_3) Tk0_19.heap n0 (Nat.le_trans Z0 sz0_20) Qk0_19_1) hZ (hw _ (List.mem_of_getElem? (i := 27) rfl)) (hw _ (List.mem_of_getElem? (i := 2) rfl)) (by decide) (by decide)) qk0_21a qk0_21c (g := (mkF m 51 #[.val (.int p0_0), .val (.int p0_1), .val (.int p0_2), .val (.int p0_3), .val (.ref bn0_1), .val (.double (own_j0_1 p0_2 p0_3)), .second] [(.ref bn0_1)])) rfl (by rw [hml]; rfl) (Steps.refl _) (argsL := []) (rest := []) (lenOf own_pd3 rfl) rfl (by show 2 * 0 + _ ≤ _; exact Nat.le_of_eq rfl) (hb hby at_51) (fun _ _ => ⟨rfl, rfl, (by decide : 1 + 0 ≤ _), (by decide : 2 + 0 ≤ _)⟩)
    dsimp only [Pt.U, Pt.locs, Pt.cells, Pt.slots] at Xk0_21 lk0_21 yk0_21 zk0_21 stk0_21 hQk0_21
    subst lk0_21 yk0_21 zk0_21
    obtain ⟨rfl, Nk0_21q, ek0_21⟩ := hQk0_21
    have Nk0_21 := Fr.app Nk0_19 Nk0_21q
    obtain ⟨cqk0_22, kqk0_22, qk0_22a, qk0_22b, qk0_22c⟩ := isOf hZ ek0_21 Qk0_19_0
    obtain ⟨_, _, ⟨Tk0_22, Lk0_22, kk0_22, nk0_22⟩, -, Xk0_22, ⟨Lck0_22, hQk0_22, lk0_22, yk0_22, zk0_22⟩, stk0_22⟩ := Xk0_21.virtualBack hx (y := (⟨"com/example/groundpass/groundpass/PreciseSum", "rest", "()D"⟩ : MethodName)) (z := (⟨"com/example/groundpass/groundpass/PreciseSum", "rest", "()D"⟩ : MethodName)) hown (mvT hZ (hw _ (List.mem_of_getElem? (i := 28) rfl))) (mvT hZ (hw _ (List.mem_of_getElem? (i := 29) rfl))) (notFace_of_selects (args := #[]) (mvT hZ (hw _ (List.mem_of_getElem? (i := 31) rfl)))) (mvT hZ (hw _ (List.mem_of_getElem? (i := 31) rfl))) (mvT hZ (hw _ (List.mem_of_getElem? (i := 30) rfl))) (by decide) (backOf (W := 0) (own_rm6 l Z a0 hw [] bn0_1 (0 : UInt64) Tk0_19.heap n0 (Nat.le_trans Z0 sz0_20) Qk0_19_2) hZ (hw _ (List.mem_of_getElem? (i := 32) rfl)) (hw _ (List.mem_of_getElem? (i := 2) rfl)) (by decide) (by decide)) qk0_22a qk0_22c (g := (mkF m 62 #[.val (.int p0_0), .val (.int p0_1), .val (.int p0_2), .val (.int p0_3), .val (.ref bn0_1), .val (.double (own_j0_1 p0_2 p0_3)), .second] [(.ref bn0_1)])) rfl (by rw [hml]; rfl) (Steps.refl _) (argsL := []) (rest := []) (lenOf own_pd3 rfl) rfl (by show 2 * 0 + _ ≤ _; exact Nat.le_of_eq rfl) (hb hby at_62) (fun _ _ => ⟨rfl, ek0_21, (by decide : 1 + 0 ≤ _), (by decide : 2 + 0 ≤ _)⟩)
    dsimp only [Pt.U, Pt.locs, Pt.cells, Pt.slots] at Xk0_22 lk0_22 yk0_22 zk0_22 stk0_22 hQk0_22
    subst lk0_22 yk0_22 zk0_22
    obtain ⟨rfl, Nk0_22q, ek0_22⟩ := hQk0_22
    have Nk0_22 := Fr.app Nk0_21 Nk0_22q
    obtain ⟨cqk0_23, kqk0_23, qk0_23a, qk0_23b, qk0_23c⟩ := isOf hZ ek0_22 Qk0_19_0
    obtain ⟨_, _, ⟨Tk0_23, Lk0_23, kk0_23, nk0_23⟩, -, Xk0_23, ⟨Lck0_23, hQk0_23, lk0_23, yk0_23, zk0_23⟩, stk0_23⟩ := Xk0_22.virtualBack hx (y := (⟨"com/example/groundpass/groundpass/PreciseSum", "below", "(DD)D"⟩ : MethodName)) (z := (⟨"com/example/groundpass/groundpass/PreciseSum", "below", "(DD)D"⟩ : MethodName)) hown (mvT hZ (hw _ (List.mem_of_getElem? (i := 33) rfl))) (mvT hZ (hw _ (List.mem_of_getElem? (i := 34) rfl))) (notFace_of_selects (args := #[]) (mvT hZ (hw _ (List.mem_of_getElem? (i := 36) rfl)))) (mvT hZ (hw _ (List.mem_of_getElem? (i := 36) rfl))) (mvT hZ (hw _ (List.mem_of_getElem? (i := 35) rfl))) (by decide) (backOf (W := 0) (own_rm7 l Z a0 hw [] bn0_1 (own_j0_1 p0_2 p0_3) (0 : UInt64) (own_j0_1 p0_2 p0_3) (0 : UInt64) Tk0_19.heap n0 (Nat.le_trans Z0 sz0_20) Qk0_19_1 Qk0_19_2 c75_nn5 c75_nn11 c75_nn12) hZ (hw _ (List.mem_of_getElem? (i := 37) rfl)) (hw _ (List.mem_of_getElem? (i := 2) rfl)) (by decide) (by decide)) qk0_23a qk0_23c (g := (mkF m 75 #[.val (.int p0_0), .val (.int p0_1), .val (.int p0_2), .val (.int p0_3), .val (.ref bn0_1), .val (.double (own_j0_1 p0_2 p0_3)), .second] [(.double (0 : UInt64)), (.double (own_j0_1 p0_2 p0_3)), (.ref bn0_1)])) rfl (by rw [hml]; rfl) (Steps.refl _) (argsL := [(.double (own_j0_1 p0_2 p0_3)), (.double (0 : UInt64))]) (rest := []) (lenOf own_pd4 rfl) rfl (by show 2 * 0 + _ ≤ _; exact Nat.le_of_eq rfl) (hb hby at_75) (fun _ _ => ⟨rfl, ek0_22, (by decide : 1 + 0 ≤ _), (by decide : 2 + 0 ≤ _)⟩)
    dsimp only [Pt.U, Pt.locs, Pt.cells, Pt.slots] at Xk0_23 lk0_23 yk0_23 zk0_23 stk0_23 hQk0_23
    subst lk0_23 yk0_23 zk0_23
    obtain ⟨rfl, Nk0_23q, ek0_23⟩ := hQk0_23
    have Nk0_23 := Fr.app Nk0_22 Nk0_23q
    obtain ⟨fs, hr, hrun, hended, hW, hsame⟩ := Xk0_23.leave (v := some (.int (1 : Int32))) (fun h => by rw [Bd.returns] at h; cases h)
    refine ⟨_, _, pre0 _ (Ks0_7 _ (K0_15 _ (?_))), hrun, hended, _, _, rfl, ?_, ⟨_, rfl⟩, hW, hsame.mono (by decide) (by decide)⟩
    · show Steps p.tables e below (Tk0_3.setTop (mkF m 15 #[.val (.int p0_0), .val (.int p0_1), .val (.int p0_2), .val (.int p0_3), .val (.ref bn0_1), .unset, .unset] [])) _
      refine XS.aload Xk0_3.here hx rfl (hb hby at_15) rfl rfl ?_
      show Steps p.tables e below (Tk0_3.setTop (mkF m 17 #[.val (.int p0_0), .val (.int p0_1), .val (.int p0_2), .val (.int p0_3), .val (.ref bn0_1), .unset, .unset] [(.ref bn0_1)])) _
      refine XS.iloadN Xk0_3.here hx rfl (hb hby at_17) rfl ?_
      show Steps p.tables e below (Tk0_3.setTop (mkF m 18 #[.val (.int p0_0), .val (.int p0_1), .val (.int p0_2), .val (.int p0_3), .val (.ref bn0_1), .unset, .unset] [(.int p0_0), (.ref bn0_1)])) _
      refine XS.i2dS Xk0_3.here hx rfl (hb hby at_18) rfl rfl ?_
      show Steps p.tables e below (Tk0_3.setTop (mkF m 19 #[.val (.int p0_0), .val (.int p0_1), .val (.int p0_2), .val (.int p0_3), .val (.ref bn0_1), .unset, .unset] [(.double (FP.i2d p0_0)), (.ref bn0_1)])) _
      refine XS.iloadN Xk0_3.here hx rfl (hb hby at_19) rfl ?_
      show Steps p.tables e below (Tk0_3.setTop (mkF m 20 #[.val (.int p0_0), .val (.int p0_1), .val (.int p0_2), .val (.int p0_3), .val (.ref bn0_1), .unset, .unset] [(.int p0_1), (.double (FP.i2d p0_0)), (.ref bn0_1)])) _
      refine XS.i2dS Xk0_3.here hx rfl (hb hby at_20) rfl rfl ?_
      show Steps p.tables e below (Tk0_3.setTop (mkF m 21 #[.val (.int p0_0), .val (.int p0_1), .val (.int p0_2), .val (.int p0_3), .val (.ref bn0_1), .unset, .unset] [(.double (FP.i2d p0_1)), (.double (FP.i2d p0_0)), (.ref bn0_1)])) _
      refine stk0_16.trans ?_
      show Steps p.tables e below (Tk0_16.setTop (mkF m 24 #[.val (.int p0_0), .val (.int p0_1), .val (.int p0_2), .val (.int p0_3), .val (.ref bn0_1), .unset, .unset] [])) _
      refine XS.iloadN Xk0_16.here hx rfl (hb hby at_24) rfl ?_
      show Steps p.tables e below (Tk0_16.setTop (mkF m 25 #[.val (.int p0_0), .val (.int p0_1), .val (.int p0_2), .val (.int p0_3), .val (.ref bn0_1), .unset, .unset] [(.int p0_2)])) _
      refine XS.i2dS Xk0_16.here hx rfl (hb hby at_25) rfl rfl ?_
      show Steps p.tables e below (Tk0_16.setTop (mkF m 26 #[.val (.int p0_0), .val (.int p0_1), .val (.int p0_2), .val (.int p0_3), .val (.ref bn0_1), .unset, .unset] [(.double (FP.i2d p0_2))])) _
      refine XS.dstore Xk0_16.here hx rfl (hb hby at_26) rfl (l' := #[.val (.int p0_0), .val (.int p0_1), .val (.int p0_2), .val (.int p0_3), .val (.ref bn0_1), .val (.double (FP.i2d p0_2)), .second]) rfl ?_
      show Steps p.tables e below (Tk0_16.setTop (mkF m 28 #[.val (.int p0_0), .val (.int p0_1), .val (.int p0_2), .val (.int p0_3), .val (.ref bn0_1), .val (.double (FP.i2d p0_2)), .second] [])) _
      refine XS.iloadN Xk0_16.here hx rfl (hb hby at_28) rfl ?_
      show Steps p.tables e below (Tk0_16.setTop (mkF m 29 #[.val (.int p0_0), .val (.int p0_1), .val (.int p0_2), .val (.int p0_3), .val (.ref bn0_1), .val (.double (FP.i2d p0_2)), .second] [(.int p0_3)])) _
      refine XS.iconst Xk0_16.here hx rfl (hb hby at_29) ?_
      show Steps p.tables e below (Tk0_16.setTop (mkF m 30 #[.val (.int p0_0), .val (.int p0_1), .val (.int p0_2), .val (.int p0_3), .val (.ref bn0_1), .val (.double (FP.i2d p0_2)), .second] [(.int (2 : Int32)), (.int p0_3)])) _
      refine XS.iand Xk0_16.here hx rfl (hb hby at_30) rfl ?_
      show Steps p.tables e below (Tk0_16.setTop (mkF m 31 #[.val (.int p0_0), .val (.int p0_1), .val (.int p0_2), .val (.int p0_3), .val (.ref bn0_1), .val (.double (FP.i2d p0_2)), .second] [(.int (p0_3 &&& (2 : Int32)))])) _
      refine stj0_18 _ ?_
      show Steps p.tables e below (Tj0_18.setTop (mkF m 42 #[.val (.int p0_0), .val (.int p0_1), .val (.int p0_2), .val (.int p0_3), .val (.ref bn0_1), .val (.double (own_j0_1 p0_2 p0_3)), .second] [])) _
      refine XS.aload Xj0_18.here hx rfl (hb hby at_42) rfl rfl ?_
      show Steps p.tables e below (Tj0_18.setTop (mkF m 44 #[.val (.int p0_0), .val (.int p0_1), .val (.int p0_2), .val (.int p0_3), .val (.ref bn0_1), .val (.double (own_j0_1 p0_2 p0_3)), .second] [(.ref bn0_1)])) _
      refine XS.dload Xj0_18.here hx rfl (hb hby at_44) rfl ?_
      show Steps p.tables e below (Tj0_18.setTop (mkF m 46 #[.val (.int p0_0), .val (.int p0_1), .val (.int p0_2), .val (.int p0_3), .val (.ref bn0_1), .val (.double (own_j0_1 p0_2 p0_3)), .second] [(.double (own_j0_1 p0_2 p0_3)), (.ref bn0_1)])) _
      refine stk0_19.trans ?_
      show Steps p.tables e below (Tk0_19.setTop (mkF m 49 #[.val (.int p0_0), .val (.int p0_1), .val (.int p0_2), .val (.int p0_3), .val (.ref bn0_1), .val (.double (own_j0_1 p0_2 p0_3)), .second] [])) _
      refine XS.aload Xk0_19.here hx rfl (hb hby at_49) rfl rfl ?_
      show Steps p.tables e below (Tk0_19.setTop (mkF m 51 #[.val (.int p0_0), .val (.int p0_1), .val (.int p0_2), .val (.int p0_3), .val (.ref bn0_1), .val (.double (own_j0_1 p0_2 p0_3)), .second] [(.ref bn0_1)])) _
      refine stk0_21.trans ?_
      show Steps p.tables e below (Tk0_21.setTop (mkF m 54 #[.val (.int p0_0), .val (.int p0_1), .val (.int p0_2), .val (.int p0_3), .val (.ref bn0_1), .val (.double (own_j0_1 p0_2 p0_3)), .second] [(.double (own_j0_1 p0_2 p0_3))])) _
      refine XS.dload Xk0_21.here hx rfl (hb hby at_54) rfl ?_
      show Steps p.tables e below (Tk0_21.setTop (mkF m 56 #[.val (.int p0_0), .val (.int p0_1), .val (.int p0_2), .val (.int p0_3), .val (.ref bn0_1), .val (.double (own_j0_1 p0_2 p0_3)), .second] [(.double (own_j0_1 p0_2 p0_3)), (.double (own_j0_1 p0_2 p0_3))])) _
      refine XS.dcmpS Xk0_21.here hx rfl (hb hby at_56) rfl rfl ?_
      show Steps p.tables e below (Tk0_21.setTop (mkF m 57 #[.val (.int p0_0), .val (.int p0_1), .val (.int p0_2), .val (.int p0_3), .val (.ref bn0_1), .val (.double (own_j0_1 p0_2 p0_3)), .second] [(.int (cmpValue (FP.dcmp (own_j0_1 p0_2 p0_3) (own_j0_1 p0_2 p0_3)) .l))])) _
      refine XS.ifNo Xk0_21.here hx rfl (hb hby at_57) rfl (XT.i0_ne_f hc57) ?_
      show Steps p.tables e below (Tk0_21.setTop (mkF m 60 #[.val (.int p0_0), .val (.int p0_1), .val (.int p0_2), .val (.int p0_3), .val (.ref bn0_1), .val (.double (own_j0_1 p0_2 p0_3)), .second] [])) _
      refine XS.aload Xk0_21.here hx rfl (hb hby at_60) rfl rfl ?_
      show Steps p.tables e below (Tk0_21.setTop (mkF m 62 #[.val (.int p0_0), .val (.int p0_1), .val (.int p0_2), .val (.int p0_3), .val (.ref bn0_1), .val (.double (own_j0_1 p0_2 p0_3)), .second] [(.ref bn0_1)])) _
      refine stk0_22.trans ?_
      show Steps p.tables e below (Tk0_22.setTop (mkF m 65 #[.val (.int p0_0), .val (.int p0_1), .val (.int p0_2), .val (.int p0_3), .val (.ref bn0_1), .val (.double (own_j0_1 p0_2 p0_3)), .second] [(.double (0 : UInt64))])) _
      refine XS.dconst0 Xk0_22.here hx rfl (hb hby at_65) (v := (0 : UInt64)) (by decide +kernel) ?_
      show Steps p.tables e below (Tk0_22.setTop (mkF m 66 #[.val (.int p0_0), .val (.int p0_1), .val (.int p0_2), .val (.int p0_3), .val (.ref bn0_1), .val (.double (own_j0_1 p0_2 p0_3)), .second] [(.double (0 : UInt64)), (.double (0 : UInt64))])) _
      refine XS.dcmpS Xk0_22.here hx rfl (hb hby at_66) rfl rfl ?_
      show Steps p.tables e below (Tk0_22.setTop (mkF m 67 #[.val (.int p0_0), .val (.int p0_1), .val (.int p0_2), .val (.int p0_3), .val (.ref bn0_1), .val (.double (own_j0_1 p0_2 p0_3)), .second] [(.int (cmpValue (FP.dcmp (0 : UInt64) (0 : UInt64)) .l))])) _
      refine XS.ifNo Xk0_22.here hx rfl (hb hby at_67) rfl (XT.i0_ne_f hc67) ?_
      show Steps p.tables e below (Tk0_22.setTop (mkF m 70 #[.val (.int p0_0), .val (.int p0_1), .val (.int p0_2), .val (.int p0_3), .val (.ref bn0_1), .val (.double (own_j0_1 p0_2 p0_3)), .second] [])) _
      refine XS.aload Xk0_22.here hx rfl (hb hby at_70) rfl rfl ?_
      show Steps p.tables e below (Tk0_22.setTop (mkF m 72 #[.val (.int p0_0), .val (.int p0_1), .val (.int p0_2), .val (.int p0_3), .val (.ref bn0_1), .val (.double (own_j0_1 p0_2 p0_3)), .second] [(.ref bn0_1)])) _
      refine XS.dload Xk0_22.here hx rfl (hb hby at_72) rfl ?_
      show Steps p.tables e below (Tk0_22.setTop (mkF m 74 #[.val (.int p0_0), .val (.int p0_1), .val (.int p0_2), .val (.int p0_3), .val (.ref bn0_1), .val (.double (own_j0_1 p0_2 p0_3)), .second] [(.double (own_j0_1 p0_2 p0_3)), (.ref bn0_1)])) _
      refine XS.dconst0 Xk0_22.here hx rfl (hb hby at_74) (v := (0 : UInt64)) (by decide +kernel) ?_
      show Steps p.tables e below (Tk0_22.setTop (mkF m 75 #[.val (.int p0_0), .val (.int p0_1), .val (.int p0_2), .val (.int p0_3), .val (.ref bn0_1), .val (.double (own_j0_1 p0_2 p0_3)), .second] [(.double (0 : UInt64)), (.double (own_j0_1 p0_2 p0_3)), (.ref bn0_1)])) _
      refine stk0_23.trans ?_
      show Steps p.tables e below (Tk0_23.setTop (mkF m 78 #[.val (.int p0_0), .val (.int p0_1), .val (.int p0_2), .val (.int p0_3), .val (.ref bn0_1), .val (.double (own_j0_1 p0_2 p0_3)), .second] [(.double (own_r7_0 (own_j0_1 p0_2 p0_3) (0 : UInt64) (own_j0_1 p0_2 p0_3) (0 : UInt64)))])) _
      refine XS.dconst0 Xk0_23.here hx rfl (hb hby at_78) (v := (0 : UInt64)) (by decide +kernel) ?_
      show Steps p.tables e below (Tk0_23.setTop (mkF m 79 #[.val (.int p0_0), .val (.int p0_1), .val (.int p0_2), .val (.int p0_3), .val (.ref bn0_1), .val (.double (own_j0_1 p0_2 p0_3)), .second] [(.double (0 : UInt64)), (.double (own_r7_0 (own_j0_1 p0_2 p0_3) (0 : UInt64) (own_j0_1 p0_2 p0_3) (0 : UInt64)))])) _
      refine XS.dcmpS Xk0_23.here hx rfl (hb hby at_79) rfl rfl ?_
      show Steps p.tables e below (Tk0_23.setTop (mkF m 80 #[.val (.int p0_0), .val (.int p0_1), .val (.int p0_2), .val (.int p0_3), .val (.ref bn0_1), .val (.double (own_j0_1 p0_2 p0_3)), .second] [(.int (cmpValue (FP.dcmp (own_r7_0 (own_j0_1 p0_2 p0_3) (0 : UInt64) (own_j0_1 p0_2 p0_3) (0 : UInt64)) (0 : UInt64)) .l))])) _
      refine XS.ifNo Xk0_23.here hx rfl (hb hby at_80) rfl (XT.i0_ne_f hc80) ?_
      show Steps p.tables e below (Tk0_23.setTop (mkF m 83 #[.val (.int p0_0), .val (.int p0_1), .val (.int p0_2), .val (.int p0_3), .val (.ref bn0_1), .val (.double (own_j0_1 p0_2 p0_3)), .second] [])) _
      refine XS.iconst Xk0_23.here hx rfl (hb hby at_83) ?_
      show Steps p.tables e below (Tk0_23.setTop (mkF m 84 #[.val (.int p0_0), .val (.int p0_1), .val (.int p0_2), .val (.int p0_3), .val (.ref bn0_1), .val (.double (own_j0_1 p0_2 p0_3)), .second] [(.int (1 : Int32))])) _
      refine XS.goto Xk0_23.here hx rfl (pc0 := 84) (pc' := 88) rfl (hb hby at_84) (by decide) (by decide) ?_
      show Steps p.tables e below (Tk0_23.setTop (mkF m 88 #[.val (.int p0_0), .val (.int p0_1), .val (.int p0_2), .val (.int p0_3), .val (.ref bn0_1), .val (.double (own_j0_1 p0_2 p0_3)), .second] [(.int (1 : Int32))])) _
      exact retN Xk0_23 hx (t := .boolean) Bd.returns (by simp) (hb hby at_88) hr
    · show own_Q0 Z p0_0 p0_1 p0_2 p0_3 h0 n0 _ Tk0_23.heap _
      rw [ek0_23]
      exact ⟨rfl, Nk0_23⟩
theorem own_c40 : FP.Core.DFin (4787326403894837248 : UInt64) ∧ own_zv (4787326403894837248 : UInt64) = 1099511627776 * own_U := ⟨by rw [FP.Core.fin_bits]; decide, by decide +kernel⟩
theorem own_v_fin (p0_2 p0_3 : Int32) : FP.Core.DFin (own_j0_1 p0_2 p0_3) := by
  unfold own_j0_1; split
  · exact FP.Core.i2d_fin _
  · unfold own_v0_0
    have b1 := Int32.le_toInt p0_2; have b2 := Int32.toInt_lt p0_2
    refine (own_exact (own_dmul_rnd (FP.Core.i2d_fin p0_2) own_c40.1) p0_2.toInt 1114 (by omega) (by decide) ?_).1
    rw [(own_i2d p0_2).2, own_c40.2]
    have : ((2 ^ 1114 : Nat) : Int) = 1099511627776 * own_U := by rw [own_U_eq]; decide +kernel
    rw [this]; simp only [Int.mul_assoc, Int.mul_comm, Int.mul_left_comm]
theorem own_x_nn39 (p0_0 : Int32) (p0_1 : Int32) (p0_2 : Int32) (p0_3 : Int32) : NoNaN64 (FP.dmul (FP.i2d p0_2) (4787326403894837248 : UInt64)) := own_rnd_nn (own_dmul_rnd (FP.Core.i2d_fin p0_2) own_c40.1)
theorem own_x_hc57 (p0_0 : Int32) (p0_1 : Int32) (p0_2 : Int32) (p0_3 : Int32) : (cmpValue (FP.dcmp (own_j0_1 p0_2 p0_3) (own_j0_1 p0_2 p0_3)) .l) = (0 : Int32) := own_self (own_v_fin _ _) _
theorem own_x_hc67 (p0_0 : Int32) (p0_1 : Int32) (p0_2 : Int32) (p0_3 : Int32) : (cmpValue (FP.dcmp (0 : UInt64) (0 : UInt64)) .l) = (0 : Int32) := own_self own_is_0.1 _
theorem own_x_c75_nn5 (p0_0 : Int32) (p0_1 : Int32) (p0_2 : Int32) (p0_3 : Int32) : NoNaN64 (FP.dsub (own_j0_1 p0_2 p0_3) (own_j0_1 p0_2 p0_3)) := own_rnd_nn (own_dsub_rnd (own_v_fin _ _) (own_v_fin _ _))
theorem own_x_c75_nn11 (p0_0 : Int32) (p0_1 : Int32) (p0_2 : Int32) (p0_3 : Int32) : NoNaN64 (FP.dsub (0 : UInt64) (0 : UInt64)) := own_rnd_nn (own_dsub_rnd own_is_0.1 own_is_0.1)
theorem own_00 : FP.dadd (0 : UInt64) (0 : UInt64) = 0 := by decide +kernel
theorem own_x_c75_nn12 (p0_0 : Int32) (p0_1 : Int32) (p0_2 : Int32) (p0_3 : Int32) : NoNaN64 (FP.dadd (FP.dsub (own_j0_1 p0_2 p0_3) (own_j0_1 p0_2 p0_3)) (FP.dsub (0 : UInt64) (0 : UInt64))) := by
  rw [own_dsub_self (own_v_fin _ _), own_dsub_self own_is_0.1, own_00]; exact own_fin_nn own_is_0.1
theorem own_x_hc80 (p0_0 : Int32) (p0_1 : Int32) (p0_2 : Int32) (p0_3 : Int32) : (cmpValue (FP.dcmp (own_r7_0 (own_j0_1 p0_2 p0_3) (0 : UInt64) (own_j0_1 p0_2 p0_3) (0 : UInt64)) (0 : UInt64)) .l) = (0 : Int32) := by
  unfold own_r7_0
  rw [own_dsub_self (own_v_fin _ _), own_dsub_self own_is_0.1, own_00]; exact own_self own_is_0.1 _

set_option maxRecDepth 65536 in
set_option maxHeartbeats 40000000 in
theorem comes_1 {Post : Tables → Env → Array Value → State → Outcome → State → Prop} (hpost : ∀ tb e args s v u, (limb_1_1.after args s (.returned v) u = true ∧ limb_1_2.after args s (.returned v) u = true ∧ True) → FrameEnd s (.returned v) u (Jvm.fieldLocs frame_1_writes args s ++ Jvm.arrayLocs frame_1_arrays args s ++ Jvm.staticLocs frame_1_statics s) 16 128 → Post tb e args s (.returned v) u) :
    ArmFor flags0 classFile x code maxLocals ret World_1 tables_1 room_1 Calls_1 rest_1 Pre_1 Post := by
  intro l hfl _ _ p e ha hc hk s m args below hf hA hF happ hP
  obtain ⟨hcalls, hrest, hpre⟩ := hP
  obtain ⟨-, -, -, hnamed, -, -, -, hat⟩ := (Spec.applies_iff hf).mp happ
  obtain ⟨hg, hn⟩ := and_e (Cond.before_iff.mp (show (Jvm.Cond.and given_1 narrow_1).before args s = true from hpre))
  obtain ⟨g1a, g1b⟩ := and_e hg
  obtain ⟨g2a, g2b⟩ := and_e g1b
  obtain ⟨g3a, g3b⟩ := and_e g2b
  obtain ⟨g4a, g4b⟩ := and_e g3b
  obtain ⟨w0, w1, w2, w3, rfl⟩ : ∃ w0 w1 w2 w3 : Value, args = #[w0, w1, w2, w3] := by
    have hs : args.size = 4 := by simpa [Cond.value, given_1] using g1a
    obtain ⟨L⟩ := args
    match L, hs with
    | [w0, w1, w2, w3], _ => exact ⟨w0, w1, w2, w3, rfl⟩
  have hw := fun d (hd : d ∈ tables_1) => atoms_spec (ws := Jvm.Cond.code x code maxLocals ret :: tables_1) hat d (List.mem_cons_of_mem _ hd)
  obtain ⟨i0, ei0⟩ := is_v g2a
  obtain rfl : w0 = (.int i0) := Option.some.inj ei0
  obtain ⟨i1, ei1⟩ := is_v g3a
  obtain rfl : w1 = (.int i1) := Option.some.inj ei1
  obtain ⟨i2, ei2⟩ := is_v g4a
  obtain rfl : w2 = (.int i2) := Option.some.inj ei2
  obtain ⟨i3, ei3⟩ := is_v g4b
  obtain rfl : w3 = (.int i3) := Option.some.inj ei3
  obtain ⟨n, o, h1, h2, h3, _, L, rfl, ⟨rfl, N⟩, hq⟩ := own_rm0 l s _ hw tables_1 i0 i1 i2 i3 s.heap s.heap.size (Nat.le_refl _) (by first | exact own_x_nn39 i0 i1 i2 i3 | exact own_x_nn39 i2) (by first | exact own_x_hc57 i0 i1 i2 i3 | exact own_x_hc57 i2 i3) (by first | exact own_x_hc67 i0 i1 i2 i3 | exact own_x_hc67 ) (by first | exact own_x_c75_nn5 i0 i1 i2 i3 | exact own_x_c75_nn5 i2 i3) (by first | exact own_x_c75_nn11 i0 i1 i2 i3 | exact own_x_c75_nn11 ) (by first | exact own_x_c75_nn12 i0 i1 i2 i3 | exact own_x_c75_nn12 i2 i3) (by first | exact own_x_hc80 i0 i1 i2 i3 | exact own_x_hc80 i2 i3) p e ha hc hk s m _ below hf ((Spec.applies_iff_loose hf).mp happ).1 ⟨rfl, State.Warmed39.refl s, rfl⟩ trivial
  refine ⟨n, _, h1, h2, h3, hpost _ _ _ _ _ _ ⟨Cond.after_iff.mpr rfl, Cond.after_iff.mpr (eq_i res_at (Term.int_eval (1)) rfl), trivial⟩ ⟨hq.1, hq.2.1, (hq.2.2.sift fun y hy => Or.inr (N y hy)).mono (by decide) (by decide)⟩⟩
theorem main_1_1 : Claimed_1_1 := comes_1 fun _ _ _ _ _ _ h hF => ⟨h.1, hF⟩
theorem main_1_2 : Claimed_1_2 := comes_1 fun _ _ _ _ _ _ h hF => ⟨h.2.1, hF⟩
end Jvm.Pilot.@@N@@
namespace Jvm.Pilot.@@N@@
open Jvm Jvm.ClassFile Sem Op Lib Jvm.Free Jvm.Stand Jvm.Pilot.@@N@@.Jvm.D
/-! MADE BY PROGRAM (witnessworld.py) out of the Statement's table words and the real class files: 9 classes; the members and pool entries that the words name. The judged class is class 1, her method 1. -/
namespace start1
open Jvm.ClassFile
def u (s : String) : CpInfo := .utf8 (stringToUtf16 s)
/-- a pool by its gaps: so many unusable entries, then the entry; so many at the end -/
def gap : Nat → List CpInfo → List CpInfo
  | 0, r => r
  | n + 1, r => .unusable :: gap n r
def poolList (es : List (Nat × CpInfo)) (last : Nat) : List CpInfo := es.foldr (fun e r => gap e.1 (e.2 :: r)) (gap last [])
def pool (es : List (Nat × CpInfo)) (last : Nat) : Array CpInfo := ⟨poolList es last⟩
def fileOf (pool : Array CpInfo) (this : Nat) (attrs : Array Attribute := #[]) (ms : Array MethodInfo := #[]) (fl : Nat := 33) (sup : Nat := 0) (ifs : Array Nat := #[]) (fds : Array FieldInfo := #[]) : ClassFile where
  minorVersion := 0
  majorVersion := 65
  constantPool := pool
  accessFlags := fl
  thisClass := this
  superClass := sup
  interfaces := ifs
  fields := fds
  methods := ms
  attributes := attrs
def plain (name : String) (sup : Option ClassId) : Class where
  name := name
  kind := .ordinary
  loader := none
  accessFlags := 33
  super := sup
  interfaces := #[]
  cf := none
  fields := #[]
  methods := #[]
  instanceTypes := #[]
  staticTypes := #[]
  resolved := #[]
  callSites := []
  init := .initialized
  statics := none
  mirror := none

def pool0 : Array CpInfo := pool [(5, u "<init>"), (0, u "()V"), (1, .class_ 10), (1, u "java/lang/Object")] 113

def k0c0 : Code := { maxStack := 0, maxLocals := 1, code := object_method_1_code, exceptionTable := #[], attributes := #[] }
def k0m0 : Method := { name := "<init>", desc := "()V", sig := { parameters := [], returnType := none }, accessFlags := 1, code := some k0c0 }
/-- java/lang/Object -/
def k0 : Class := { plain "java/lang/Object" none with
  accessFlags := 33
  interfaces := #[]
  cf := some (fileOf pool0 8 #[] #[{ accessFlags := 1, nameIndex := 5, descriptorIndex := 6, attributes := #[] }] 33 0 #[] #[])
  fields := #[]
  methods := #[k0m0]
  instanceTypes := #[]
  staticTypes := #[]
  resolved := Array.replicate 124 none
  statics := none }

def pool1 : Array CpInfo := pool [(2, .class_ 4), (0, .nameAndType 5 6), (0, u "java/lang/Object"), (0, u "<init>"), (0, u "()V"), (0, .class_ 8), (0, u "com/example/groundpass/groundpass/PreciseSum"), (0, .methodref 7 3), (0, .methodref 7 11), (0, .nameAndType 12 13), (0, u "set"), (0, u "(DD)V"), (0, .double 4787326403894837248), (1, .methodref 7 17), (0, .nameAndType 12 18), (0, u "(D)V"), (0, .methodref 7 20), (0, .nameAndType 21 22), (0, u "value"), (0, u "()D"), (0, .methodref 7 24), (0, .nameAndType 25 22), (0, u "rest"), (0, .methodref 7 27), (0, .nameAndType 28 29), (0, u "below"), (0, u "(DD)D"), (0, .class_ 31), (0, u "com/example/groundpass/groundpass/PreciseSumSetPinLaw"), (2, u "law"), (0, u "(IIII)Z")] 3

def k1m0 : Method := { name := "<init>", desc := "()V", sig := { parameters := [], returnType := none }, accessFlags := 1, code := none }
def k1c1 : Code := { maxStack := 5, maxLocals := 7, code := code, exceptionTable := #[], attributes := #[] }
def k1m1 : Method := { name := "law", desc := "(IIII)Z", sig := { parameters := [.int, .int, .int, .int], returnType := some .boolean }, accessFlags := 9, code := some k1c1 }
/-- com/example/groundpass/groundpass/PreciseSumSetPinLaw -/
def k1 : Class := { plain "com/example/groundpass/groundpass/PreciseSumSetPinLaw" (some 0) with
  accessFlags := 49
  interfaces := #[]
  cf := some (fileOf pool1 30 #[] #[{ accessFlags := 1, nameIndex := 5, descriptorIndex := 6, attributes := #[] }, { accessFlags := 9, nameIndex := 34, descriptorIndex := 35, attributes := #[] }] 49 2 #[] #[])
  fields := #[]
  methods := #[k1m0, k1m1]
  instanceTypes := #[]
  staticTypes := #[]
  resolved := Array.replicate 39 none
  statics := none }

def pool2 : Array CpInfo := pool [(1, .methodref 2 3), (0, .class_ 4), (0, .nameAndType 5 6), (0, u "java/lang/Object"), (0, u "<init>"), (0, u "()V"), (0, .fieldref 8 9), (0, .class_ 10), (0, .nameAndType 11 12), (0, u "com/example/groundpass/groundpass/PreciseSum"), (0, u "high"), (0, u "D"), (0, .fieldref 8 14), (0, .nameAndType 15 12), (0, u "low"), (4, u "(D)V"), (21, u "value"), (0, u "()D"), (0, u "rest"), (2, u "below"), (0, u "(DD)D"), (0, u "set"), (1, u "(DD)V")] 9

def k2c0 : Code := { maxStack := 1, maxLocals := 1, code := prog_31_method_1_code, exceptionTable := #[], attributes := #[] }
def k2m0 : Method := { name := "<init>", desc := "()V", sig := { parameters := [], returnType := none }, accessFlags := 0, code := some k2c0 }
def k2c1 : Code := { maxStack := 2, maxLocals := 1, code := prog_31_method_2_code, exceptionTable := #[], attributes := #[] }
def k2m1 : Method := { name := "value", desc := "()D", sig := { parameters := [], returnType := some .double }, accessFlags := 0, code := some k2c1 }
def k2c2 : Code := { maxStack := 2, maxLocals := 1, code := prog_31_method_3_code, exceptionTable := #[], attributes := #[] }
def k2m2 : Method := { name := "rest", desc := "()D", sig := { parameters := [], returnType := some .double }, accessFlags := 0, code := some k2c2 }
def k2c3 : Code := { maxStack := 6, maxLocals := 5, code := prog_31_method_5_code, exceptionTable := #[], attributes := #[] }
def k2m3 : Method := { name := "below", desc := "(DD)D", sig := { parameters := [.double, .double], returnType := some .double }, accessFlags := 0, code := some k2c3 }
def k2c4 : Code := { maxStack := 3, maxLocals := 3, code := prog_31_method_6_code, exceptionTable := #[], attributes := #[] }
def k2m4 : Method := { name := "set", desc := "(D)V", sig := { parameters := [.double], returnType := none }, accessFlags := 0, code := some k2c4 }
def k2c5 : Code := { maxStack := 3, maxLocals := 5, code := prog_31_method_8_code, exceptionTable := #[], attributes := #[] }
def k2m5 : Method := { name := "set", desc := "(DD)V", sig := { parameters := [.double, .double], returnType := none }, accessFlags := 0, code := some k2c5 }
/-- com/example/groundpass/groundpass/PreciseSum -/
def k2 : Class := { plain "com/example/groundpass/groundpass/PreciseSum" (some 0) with
  accessFlags := 48
  interfaces := #[]
  cf := some (fileOf pool2 8 #[] #[{ accessFlags := 0, nameIndex := 5, descriptorIndex := 6, attributes := #[] }, { accessFlags := 0, nameIndex := 42, descriptorIndex := 43, attributes := #[] }, { accessFlags := 0, nameIndex := 44, descriptorIndex := 43, attributes := #[] }, { accessFlags := 0, nameIndex := 47, descriptorIndex := 48, attributes := #[] }, { accessFlags := 0, nameIndex := 49, descriptorIndex := 20, attributes := #[] }, { accessFlags := 0, nameIndex := 49, descriptorIndex := 51, attributes := #[] }] 48 2 #[] #[{ accessFlags := 2, nameIndex := 11, descriptorIndex := 12, attributes := #[] }, { accessFlags := 2, nameIndex := 15, descriptorIndex := 12, attributes := #[] }])
  fields := #[{ name := "high", type := .double, accessFlags := 2, slot := 0, constantValue := 0 }, { name := "low", type := .double, accessFlags := 2, slot := 1, constantValue := 0 }]
  methods := #[k2m0, k2m1, k2m2, k2m3, k2m4, k2m5]
  instanceTypes := #[.double, .double]
  staticTypes := #[]
  resolved := Array.replicate 61 none
  statics := none }

def pool3 : Array CpInfo := pool [(1, u "java/lang/Cloneable"), (0, .class_ 1), (0, u "java/lang/Object"), (0, .class_ 3)] 3

/-- java/lang/Cloneable -/
def k3 : Class := { plain "java/lang/Cloneable" (some 0) with
  accessFlags := 1537
  interfaces := #[]
  cf := some (fileOf pool3 2 #[] #[] 1537 4 #[] #[])
  fields := #[]
  methods := #[]
  instanceTypes := #[]
  staticTypes := #[]
  resolved := Array.replicate 8 none
  statics := none }

def pool4 : Array CpInfo := pool [(1, u "java/io/Serializable"), (0, .class_ 1), (0, u "java/lang/Object"), (0, .class_ 3)] 3

/-- java/io/Serializable -/
def k4 : Class := { plain "java/io/Serializable" (some 0) with
  accessFlags := 1537
  interfaces := #[]
  cf := some (fileOf pool4 2 #[] #[] 1537 4 #[] #[])
  fields := #[]
  methods := #[]
  instanceTypes := #[]
  staticTypes := #[]
  resolved := Array.replicate 8 none
  statics := none }

/-- the primitive byte -/
def k5 : Class := { plain "byte" none with kind := .primitive 'B', accessFlags := 0x411 }
/-- [B -/
def k6 : Class := { plain "[B" (some 0) with kind := .array 5 .byte, interfaces := #[3, 4], accessFlags := 1041 }

/-- the primitive int -/
def k7 : Class := { plain "int" none with kind := .primitive 'I', accessFlags := 0x411 }
/-- [I -/
def k8 : Class := { plain "[I" (some 0) with kind := .array 7 .int, interfaces := #[3, 4], accessFlags := 1041 }

def heap : Heap := #[]
def classes : Array Class := #[k0, k1, k2, k3, k4, k5, k6, k7, k8]
def interned : List (Array UInt16 × Addr) := []
def slotsUsed : Nat := 0
def theMethod : MethodId := ⟨1, 1⟩
def args0 : Array Value := #[.int 5, .int 6, .int 3, .int 1]
def aboutOver (below : List Frame) : State where
  vm := { classes := classes, interned := interned.toArray }
  heap := heap
  slotsUsed := slotsUsed
  threads := #[{ frames := .invoking theMethod args0 :: below }]
def below0 : List Frame := [.native { method := ⟨0, 0⟩, args := #[] }]
def about1 : State := aboutOver below0
def p0 : Program := .bare "" "" ""
def e0 : Env := launch0.env 0 0 0
theorem w_frames : about1.frames = Frame.invoking theMethod args0 :: below0 := rfl
set_option maxRecDepth 65536 in
theorem w_args : argsFit about1.vm theMethod args0 = true := by decide +kernel
set_option maxRecDepth 65536 in
theorem w_heap : heapFits about1 = true := by decide +kernel
set_option maxRecDepth 65536 in
theorem w_runnable : about1.curStatus? = some .runnable := by decide +kernel
set_option maxRecDepth 65536 in
theorem w_alone : about1.alone = true := by decide +kernel
set_option maxRecDepth 65536 in
theorem w_named : about1.methodNamed? x = some theMethod := by decide +kernel
set_option maxRecDepth 65536 in
theorem w_hears : about1.hears theMethod below0 = true := by decide +kernel
set_option maxRecDepth 65536 in
theorem w_ripe : about1.ripe theMethod args0 below0 = true := by decide +kernel
theorem w_running : about1.status = .running := rfl
set_option maxRecDepth 65536 in
theorem w_room : about1.hasRoom e0.platform room_1 = true :=
  launch0.hasRoom_least _ room_1 (by decide +kernel) (by decide +kernel) (by decide +kernel) (by decide +kernel) (by decide +kernel) (by decide +kernel)
theorem allAtoms_all (ts : List Jvm.Cond) (a : Array Jvm.Value) (st : Jvm.State) : (allAtoms ts).before a st = ts.all (fun c => c.before a st) := by
  induction ts with
  | nil => rfl
  | cons c t ih =>
    show (Jvm.Cond.and c (allAtoms t)).before a st = _
    rw [Jvm.Cond.before_and, ih, List.all_cons]
def words1 : List Jvm.Cond := Jvm.Cond.code x code maxLocals ret :: tables_1
/-- a 'code' word, met by the world's own term for the bytes: nothing is compared byte by byte -/
theorem code_word {y : MethodName} {bytes : ByteArray} {mx : Nat} {rt : Option FieldType} {a : Array Value} {s : State} {m : MethodId} {meth : Method} {c : Code} (h1 : s.methodNamed? y = some m) (h2 : s.vm.method? m = some meth) (h3 : meth.code = some c) (h4 : c.code = bytes)
    (h5 : (c.maxLocals == mx && c.exceptionTable.isEmpty && decide (c.maxStack ≤ mostOperands) && decide (meth.sig.returnType = rt) && !meth.locks && decide (parseMethodDescriptor y.desc = some meth.sig)) = true) : (Jvm.Cond.code y bytes mx rt).before a s = true := by
  simp only [Bool.and_eq_true, beq_iff_eq, Bool.not_eq_true', decide_eq_true_eq] at h5
  obtain ⟨⟨⟨⟨⟨g1, g2⟩, g3⟩, g4⟩, g5⟩, g6⟩ := h5
  simp [Cond.before, Cond.holds, Cond.value, h1, h2, h3, h4, g1, g2, g3, g4, g5, g6]
def isCode : Jvm.Cond → Bool
  | .code _ _ _ _ => true
  | _ => false
theorem all_split {L : List Jvm.Cond} {P : Jvm.Cond → Bool} (h1 : L.all (fun c => isCode c || P c) = true) (h2 : ∀ c ∈ L.filter isCode, P c = true) : L.all P = true := by
  refine List.all_eq_true.mpr fun c hc => ?_
  have h := List.all_eq_true.mp h1 c hc
  rcases Bool.eq_false_or_eq_true (isCode c) with hi | hi
  · exact h2 c (List.mem_filter.mpr ⟨hc, hi⟩)
  · simpa [hi] using h
set_option maxRecDepth 65536 in
theorem w_c0 : (Jvm.Cond.code x code maxLocals ret).before args0 about1 = true := code_word (m := ⟨1, 1⟩) (meth := k1m1) (c := k1c1) (by decide +kernel) rfl rfl rfl (by decide +kernel)
set_option maxRecDepth 65536 in
theorem w_c1 : (Jvm.Cond.code ({ cls := "com/example/groundpass/groundpass/PreciseSum", name := "<init>", desc := "()V" } : Jvm.MethodName) prog_31_method_1_code (1 : Nat) (Option.none : Option Jvm.ClassFile.FieldType)).before args0 about1 = true := code_word (m := ⟨2, 0⟩) (meth := k2m0) (c := k2c0) (by decide +kernel) rfl rfl rfl (by decide +kernel)
set_option maxRecDepth 65536 in
theorem w_c2 : (Jvm.Cond.code ({ cls := "java/lang/Object", name := "<init>", desc := "()V" } : Jvm.MethodName) object_method_1_code (1 : Nat) (Option.none : Option Jvm.ClassFile.FieldType)).before args0 about1 = true := code_word (m := ⟨0, 0⟩) (meth := k0m0) (c := k0c0) (by decide +kernel) rfl rfl rfl (by decide +kernel)
set_option maxRecDepth 65536 in
theorem w_c3 : (Jvm.Cond.code ({ cls := "com/example/groundpass/groundpass/PreciseSum", name := "set", desc := "(DD)V" } : Jvm.MethodName) prog_31_method_8_code (5 : Nat) (Option.none : Option Jvm.ClassFile.FieldType)).before args0 about1 = true := code_word (m := ⟨2, 5⟩) (meth := k2m5) (c := k2c5) (by decide +kernel) rfl rfl rfl (by decide +kernel)
set_option maxRecDepth 65536 in
theorem w_c4 : (Jvm.Cond.code ({ cls := "com/example/groundpass/groundpass/PreciseSum", name := "set", desc := "(D)V" } : Jvm.MethodName) prog_31_method_6_code (3 : Nat) (Option.none : Option Jvm.ClassFile.FieldType)).before args0 about1 = true := code_word (m := ⟨2, 4⟩) (meth := k2m4) (c := k2c4) (by decide +kernel) rfl rfl rfl (by decide +kernel)
set_option maxRecDepth 65536 in
theorem w_c5 : (Jvm.Cond.code ({ cls := "com/example/groundpass/groundpass/PreciseSum", name := "value", desc := "()D" } : Jvm.MethodName) prog_31_method_2_code (1 : Nat) (Option.some Jvm.ClassFile.FieldType.double)).before args0 about1 = true := code_word (m := ⟨2, 1⟩) (meth := k2m1) (c := k2c1) (by decide +kernel) rfl rfl rfl (by decide +kernel)
set_option maxRecDepth 65536 in
theorem w_c6 : (Jvm.Cond.code ({ cls := "com/example/groundpass/groundpass/PreciseSum", name := "rest", desc := "()D" } : Jvm.MethodName) prog_31_method_3_code (1 : Nat) (Option.some Jvm.ClassFile.FieldType.double)).before args0 about1 = true := code_word (m := ⟨2, 2⟩) (meth := k2m2) (c := k2c2) (by decide +kernel) rfl rfl rfl (by decide +kernel)
set_option maxRecDepth 65536 in
theorem w_c7 : (Jvm.Cond.code ({ cls := "com/example/groundpass/groundpass/PreciseSum", name := "below", desc := "(DD)D" } : Jvm.MethodName) prog_31_method_5_code (5 : Nat) (Option.some Jvm.ClassFile.FieldType.double)).before args0 about1 = true := code_word (m := ⟨2, 3⟩) (meth := k2m3) (c := k2c3) (by decide +kernel) rfl rfl rfl (by decide +kernel)
def codes1 : List Jvm.Cond := [Jvm.Cond.code x code maxLocals ret, Jvm.Cond.code ({ cls := "com/example/groundpass/groundpass/PreciseSum", name := "<init>", desc := "()V" } : Jvm.MethodName) prog_31_method_1_code (1 : Nat) (Option.none : Option Jvm.ClassFile.FieldType), Jvm.Cond.code ({ cls := "java/lang/Object", name := "<init>", desc := "()V" } : Jvm.MethodName) object_method_1_code (1 : Nat) (Option.none : Option Jvm.ClassFile.FieldType), Jvm.Cond.code ({ cls := "com/example/groundpass/groundpass/PreciseSum", name := "set", desc := "(DD)V" } : Jvm.MethodName) prog_31_method_8_code (5 : Nat) (Option.none : Option Jvm.ClassFile.FieldType), Jvm.Cond.code ({ cls := "com/example/groundpass/groundpass/PreciseSum", name := "set", desc := "(D)V" } : Jvm.MethodName) prog_31_method_6_code (3 : Nat) (Option.none : Option Jvm.ClassFile.FieldType), Jvm.Cond.code ({ cls := "com/example/groundpass/groundpass/PreciseSum", name := "value", desc := "()D" } : Jvm.MethodName) prog_31_method_2_code (1 : Nat) (Option.some Jvm.ClassFile.FieldType.double), Jvm.Cond.code ({ cls := "com/example/groundpass/groundpass/PreciseSum", name := "rest", desc := "()D" } : Jvm.MethodName) prog_31_method_3_code (1 : Nat) (Option.some Jvm.ClassFile.FieldType.double), Jvm.Cond.code ({ cls := "com/example/groundpass/groundpass/PreciseSum", name := "below", desc := "(DD)D" } : Jvm.MethodName) prog_31_method_5_code (5 : Nat) (Option.some Jvm.ClassFile.FieldType.double)]
set_option maxRecDepth 65536 in
theorem codes_eq : words1.filter isCode = codes1 := rfl
theorem w_codes : ∀ c ∈ words1.filter isCode, c.before args0 about1 = true := by
  rw [codes_eq]
  intro c hc
  simp only [codes1, List.mem_cons, List.not_mem_nil, or_false] at hc
  rcases hc with rfl | rfl | rfl | rfl | rfl | rfl | rfl | rfl
  · exact w_c0
  · exact w_c1
  · exact w_c2
  · exact w_c3
  · exact w_c4
  · exact w_c5
  · exact w_c6
  · exact w_c7
set_option maxRecDepth 65536 in
theorem w_t1 : (words1.take 24).all (fun c => isCode c || c.before args0 about1) = true := by decide +kernel
set_option maxRecDepth 65536 in
theorem w_t2 : (words1.drop 24).all (fun c => isCode c || c.before args0 about1) = true := by decide +kernel
theorem w_tables : (allAtoms (Jvm.Cond.code x code maxLocals ret :: tables_1)).before args0 about1 = true := by
  rw [allAtoms_all]
  show words1.all (fun c => c.before args0 about1) = true
  refine all_split ?_ w_codes
  rw [← List.take_append_drop 24 words1, List.all_append, w_t1, w_t2]
  rfl
set_option maxRecDepth 65536 in
theorem w_case : (Jvm.Cond.and given_1 narrow_1).before args0 about1 = true := by decide +kernel
theorem w_applies : (headSpec (Jvm.Cond.code x code maxLocals ret :: tables_1) room_1).applies x e0.platform about1 = true :=
  (Spec.applies_iff w_frames).mpr ⟨w_running, w_runnable, w_alone, w_named, w_hears, w_ripe, w_room, w_tables⟩
theorem atStart : AtStart classFile x code maxLocals ret World_1 tables_1 room_1 Calls_1 rest_1 Pre_1 launch0 p0 e0 about1 theMethod args0 below0 :=
  ⟨lists_1, trivial, launch0.admits_env _ _ _, launch0.least_env, fairChoices_fair.cas, fairChoices_fair.clock, w_frames, w_args, w_heap, w_applies, trivial, trivial, w_case⟩
end start1
theorem witness_1 : WitnessClaimed_1 := ⟨start1.p0, start1.e0, start1.about1, start1.theMethod, start1.args0, start1.below0, start1.atStart⟩
end Jvm.Pilot.@@N@@
