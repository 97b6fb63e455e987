import JvmDerived
import JvmDerived.Pilot.@@N@@Statement
import JvmDerived.Pilot.@@N@@Code
@@BLOCK:NumsL.lean.txt@@
set_option linter.unusedVariables false
set_option linter.unusedSimpArgs false
namespace Jvm.RoadKit
open Sem ClassFile Op Lib Jvm.Stand Jvm.Free Jvm.LawKit
section New
variable {p : Program} {l : Launch} {e : Env} {R : Room} {s : State} {m : MethodId} {args : Array Value} {below : List Frame} {meth : Method} {c : Code} {T : State} {locs : List Loc} {cells slots : Nat}
theorem retI (X : Stand p l e R s m args below meth c T locs cells slots) (hx : p.tables.exec = Jvm.exec) {pc : Nat} {Ls : Array Slot} {z : Int32} {rest : List Value} (hret : meth.sig.returnType = some .int) (hd : decode c.code pc = .ok (.ireturn, 1)) {fs : List Frame}
    (hl : ∀ (f : JFrame) (acts : List Action), f.method = m → f.locked = none → f.entered = [] → (doReturn e (T.setTop f) acts (some (.int z))).1 = T.setFrames fs) : Steps p.tables e below (T.setTop (mkF m pc Ls (.int z :: rest))) (T.setFrames fs) := by
  have hm' : T.vm.method? m = some meth := X.method'
  have hn : narrow .int (.int z) = .int z := rfl
  show Steps p.tables e below (T.setTop { method := m, pc := pc, locals := Ls, stack := _ :: rest, locked := none }) _
  jvm_step X.here [X.here.top, hx, hd, hm', hret, hn]
  first | (intro acts; rw [hl _ acts rfl rfl rfl]) | rw [hl _ _ rfl rfl rfl]
  exact Steps.refl _
theorem own_retD (X : Stand p l e R s m args below meth c T locs cells slots) (hx : p.tables.exec = Jvm.exec) {pc : Nat} {Ls : Array Slot} {z : UInt64} {rest : List Value} (hret : meth.sig.returnType = some .double) (hd : decode c.code pc = .ok (.dreturn, 1)) {fs : List Frame}
    (hl : ∀ (f : JFrame) (acts : List Action), f.method = m → f.locked = none → f.entered = [] → (doReturn e (T.setTop f) acts (some (.double z))).1 = T.setFrames fs) : Steps p.tables e below (T.setTop (mkF m pc Ls (.double z :: rest))) (T.setFrames fs) := by
  have hm' : T.vm.method? m = some meth := X.method'
  have hn : narrow .double (.double z) = .double z := rfl
  show Steps p.tables e below (T.setTop { method := m, pc := pc, locals := Ls, stack := _ :: rest, locked := none }) _
  jvm_step X.here [X.here.top, hx, hd, hm', hret, hn]
  first | (intro acts; rw [hl _ acts rfl rfl rfl]) | rw [hl _ _ rfl rfl rfl]
  exact Steps.refl _
theorem own_mvM {Z s : State} {a0 args : Array Value} {own host : String} {y : MethodName} {index : Nat} (hZ : Z.Warmed39 s.vm) (w : (Cond.methodLinkNest own index y host).before a0 Z = true) : (Cond.methodLinkNest own index y host).before args s = true := (Cond.methodLinkNest_wide hZ w :)
end New
end Jvm.RoadKit
namespace Jvm.Pilot.@@N@@
open Jvm Jvm.ClassFile Sem Op Lib Jvm.Free Jvm.Stand Jvm.LawKit Jvm.RoadKit Bundle Jvm.Free.Fl Jvm.Pilot.@@N@@.Jvm.D
/-! my own laws on doubles: a result is a rounding of its exact value (monotone), exactness, the order -/
section OwnFloat
open Jvm.FP Jvm.FP.Core
/-- the value in units of 2^-1074 -/
def own_zv (a : UInt64) : Int := Core.zval Core.b64 (Core.val64 a)
abbrev own_U : Int := (Core.one64 : Int)
theorem own_U_pos : 0 < own_U := Int.natCast_pos.mpr Core.one64_pos
/-- r is N / D, rounded, as far as the order goes -/
def own_rnd (N D : Int) (r : UInt64) : Prop :=
  Core.val64 r ≠ .nan ∧ (∀ V, Core.val64 V ≠ .nan → own_zv V * D ≤ N → own_zv V ≤ own_zv r) ∧ (∀ V, Core.val64 V ≠ .nan → N ≤ own_zv V * D → own_zv r ≤ own_zv V)
theorem own_fin_ne {a : UInt64} (h : Core.DFin a) : Core.val64 a ≠ .nan := h.ne_nan
theorem own_pow0 : (2 : Nat) ^ (Core.b64.qmin - Core.b64.qmin).toNat = 1 := by rw [Int.sub_self]; rfl
theorem own_rnd_of_round {x : UInt64} {sg : Bool} {n : Nat} {e e0 : Int} (hx : Core.val64 x = Core.round Core.b64 (.fin sg n e)) (h0 : e0 ≤ Core.b64.qmin) (h0e : e0 ≤ e) :
    own_rnd (Core.signed sg (Core.inUnits n e e0)) (((2 ^ (Core.b64.qmin - e0).toNat : Nat) : Int)) x := by
  refine ⟨?_, fun V hV h => ?_, fun V hV h => ?_⟩
  · rw [hx]; intro q; have := Core.round_nan.mp q; cases this
  · have := Core.zval_round_ge Core.good_b64 (s := sg) (c := n) (q := e) (e0 := e0) (V := Core.val64 V) (Core.val64_fits V) hV h0 h0e h
    unfold own_zv; rw [hx]; exact this
  · have := Core.zval_round_le Core.good_b64 (s := sg) (c := n) (q := e) (e0 := e0) (V := Core.val64 V) (Core.val64_fits V) hV h0 h0e h
    unfold own_zv; rw [hx]; exact this
theorem own_dadd_rnd {a b : UInt64} (ha : Core.DFin a) (hb : Core.DFin b) : own_rnd (own_zv a + own_zv b) 1 (FP.dadd a b) := by
  obtain ⟨s, c, q, ea⟩ := ha
  obtain ⟨t, d, r, eb⟩ := hb
  have fa := Core.val64_fits a; have fb := Core.val64_fits b
  rw [ea] at fa; rw [eb] at fb
  obtain ⟨sg, n, e, h1, h2, h3⟩ := Core.sum_units fa fb
  have hv : Core.val64 (FP.dadd a b) = Core.round Core.b64 (.fin sg n e) := by
    show Core.val64 (Core.dadd a b) = _
    rw [Core.val64_dadd, ea, eb, h1]
  have := own_rnd_of_round hv (Int.le_refl _) h2
  rw [h3, own_pow0] at this
  unfold own_zv; rw [ea, eb]; exact this
theorem own_zv_dneg (a : UInt64) : own_zv (Core.dneg a) = -own_zv a := by
  unfold own_zv; rw [Core.val64_dneg, Core.zval_negate]
theorem own_fin_dneg {a : UInt64} (ha : Core.DFin a) : Core.DFin (Core.dneg a) := by
  obtain ⟨s, c, q, ea⟩ := ha
  exact ⟨!s, c, q, by rw [Core.val64_dneg, ea]; rfl⟩
theorem own_dneg_zv {a : UInt64} (ha : Core.DFin a) : Core.DFin (FP.dneg a) ∧ own_zv (FP.dneg a) = -own_zv a := by
  rw [FP.dneg_core ha.notNaN]; exact ⟨own_fin_dneg ha, own_zv_dneg a⟩
theorem own_dsub_rnd {a b : UInt64} (ha : Core.DFin a) (hb : Core.DFin b) : own_rnd (own_zv a - own_zv b) 1 (FP.dsub a b) := by
  have h := own_dadd_rnd ha (own_fin_dneg hb)
  rw [own_zv_dneg] at h
  have e : FP.dsub a b = FP.dadd a (Core.dneg b) := Core.dsub_eq a b
  rw [e, Int.sub_eq_add_neg]; exact h
theorem own_dmul_rnd {a b : UInt64} (ha : Core.DFin a) (hb : Core.DFin b) : own_rnd (own_zv a * own_zv b) own_U (FP.dmul a b) := by
  obtain ⟨s, c, q, ea⟩ := ha
  obtain ⟨t, d, r, eb⟩ := hb
  have fa := Core.val64_fits a; have fb := Core.val64_fits b
  rw [ea] at fa; rw [eb] at fb
  obtain ⟨h1, h2, h3⟩ := Core.product_units fa fb
  have hv : Core.val64 (FP.dmul a b) = Core.round Core.b64 (.fin (s != t) (c * d) (q + r)) := by
    show Core.val64 (Core.dmul a b) = _
    rw [Core.val64_dmul, ea, eb, h1]
  have hq := Core.qmin_neg Core.good_b64
  have := own_rnd_of_round (e0 := 2 * Core.b64.qmin) hv (by omega) h2
  rw [h3, Core.signed_xor, show Core.b64.qmin - 2 * Core.b64.qmin = -Core.b64.qmin by omega, Core.pow_qmin64] at this
  unfold own_zv; rw [ea, eb]; exact this
theorem own_ddiv_rnd {a b : UInt64} (ha : Core.DFin a) (hb : Core.DFin b) (hz : own_zv b ≠ 0) : own_rnd (if 0 < own_zv b then own_zv a * own_U else -(own_zv a * own_U)) (own_zv b).natAbs (FP.ddiv a b) := by
  obtain ⟨s, c, q, ea⟩ := ha
  obtain ⟨t, d, r, eb⟩ := hb
  have fa := Core.val64_fits a; have fb := Core.val64_fits b
  rw [ea] at fa; rw [eb] at fb
  have hq1 := fa.2.1; have hq2 := fb.2.1
  have hqm := Core.qmin_neg Core.good_b64
  have zb : own_zv b = Core.signed t (Core.inUnits d r Core.b64.qmin) := by unfold own_zv; rw [eb]; rfl
  have za : own_zv a = Core.signed s (Core.inUnits c q Core.b64.qmin) := by unfold own_zv; rw [ea]; rfl
  have d0 : d ≠ 0 := fun h => hz (by rw [zb, h]; unfold Core.inUnits; rw [Nat.zero_mul]; exact Core.signed_zero t)
  have hB : 0 < Core.inUnits d r Core.b64.qmin := Nat.mul_pos (Nat.pos_of_ne_zero d0) (Nat.two_pow_pos _)
  have hv : Core.val64 (FP.ddiv a b) = Core.roundRatio Core.b64 (s != t) c d (q - r) := by
    show Core.val64 (Core.ddiv a b) = _
    rw [Core.val64_ddiv, ea, eb]; show (if d = 0 then _ else _) = _; rw [if_neg d0]
  have e1 : Core.inUnits c (q - r) (Core.b64.qmin - (r - Core.b64.qmin)) = Core.inUnits c q Core.b64.qmin * Core.one64 := by
    unfold Core.inUnits
    rw [← Core.pow_qmin64, Nat.mul_assoc, ← Nat.pow_add, show (q - r - (Core.b64.qmin - (r - Core.b64.qmin))).toNat = (q - Core.b64.qmin).toNat + (-Core.b64.qmin).toNat by omega]
  have e2 : ∀ v : Nat, v * 2 ^ (Core.b64.qmin - (Core.b64.qmin - (r - Core.b64.qmin))).toNat * d = v * Core.inUnits d r Core.b64.qmin := fun v => by
    unfold Core.inUnits
    rw [show Core.b64.qmin - (Core.b64.qmin - (r - Core.b64.qmin)) = r - Core.b64.qmin by omega, Nat.mul_assoc, Nat.mul_comm (2 ^ _) d]
  have hle : ∀ V : Core.Datum, Core.fits Core.b64 V → V ≠ .nan → Core.inUnits c q Core.b64.qmin * Core.one64 ≤ Core.zmag Core.b64 V * Core.inUnits d r Core.b64.qmin → Core.zmag Core.b64 (Core.roundRatio Core.b64 (s != t) c d (q - r)) ≤ Core.zmag Core.b64 V := fun V hV hn h =>
    Core.zmag_roundRatio_le Core.good_b64 (e0 := Core.b64.qmin - (r - Core.b64.qmin)) (Nat.pos_of_ne_zero d0) hV hn (by omega) (by omega) (by rw [e1, e2]; exact h)
  have hge : ∀ V : Core.Datum, Core.fits Core.b64 V → V ≠ .nan → Core.zmag Core.b64 V * Core.inUnits d r Core.b64.qmin ≤ Core.inUnits c q Core.b64.qmin * Core.one64 → Core.zmag Core.b64 V ≤ Core.zmag Core.b64 (Core.roundRatio Core.b64 (s != t) c d (q - r)) := fun V hV hn h =>
    Core.zmag_roundRatio_ge Core.good_b64 (e0 := Core.b64.qmin - (r - Core.b64.qmin)) (Nat.pos_of_ne_zero d0) hV (by omega) (by omega) (by rw [e1, e2]; exact h)
  have zr : own_zv (FP.ddiv a b) = Core.signed (s != t) (Core.zmag Core.b64 (Core.roundRatio Core.b64 (s != t) c d (q - r))) := by
    unfold own_zv; rw [hv]; unfold Core.zval; rw [Core.sgn_roundRatio]
  have hN : (if 0 < own_zv b then own_zv a * own_U else -(own_zv a * own_U)) = Core.signed (s != t) (Core.inUnits c q Core.b64.qmin * Core.one64) := by
    rw [zb, za, ← Core.signed_mul]
    cases s <;> cases t <;> simp only [Core.signed, if_true, if_false, Bool.false_eq_true, bne_self_eq_false, Bool.true_bne, Bool.false_bne, Bool.not_false, Bool.not_true] <;> split <;> omega
  have hD : ((own_zv b).natAbs : Int) = (Core.inUnits d r Core.b64.qmin : Nat) := by rw [zb, Core.natAbs_signed]
  have hzz : ∀ v : Nat, v * Core.inUnits d r Core.b64.qmin = 0 → v = 0 := fun v h => by rcases Nat.mul_eq_zero.mp h with h | h <;> omega
  rw [hN, hD]
  refine ⟨by rw [hv]; exact Core.roundRatio_ne_nan _ _ _ _ _, fun V hV h => ?_, fun V hV h => ?_⟩
  all_goals
    have h1 := hle _ (Core.val64_fits V) hV; have h2 := hge _ (Core.val64_fits V) hV; have h3 := hzz (Core.zmag Core.b64 (Core.val64 V))
    rw [zr]
    rw [show own_zv V = Core.signed (Core.sgn (Core.val64 V)) (Core.zmag Core.b64 (Core.val64 V)) from rfl] at h ⊢
    rw [← Core.signed_mul] at h
    generalize Core.zmag Core.b64 (Core.val64 V) * Core.inUnits d r Core.b64.qmin = vP at *
    generalize Core.inUnits c q Core.b64.qmin * Core.one64 = A at *
    generalize Core.sgn (Core.val64 V) = tV at *
    generalize (s != t) = st at *
    cases st <;> cases tV <;> simp only [Core.signed, if_true, Bool.false_eq_true, if_false] at h ⊢
    all_goals first
      | omega
      | (have := h1 (by omega); omega)
      | (have := h2 (by omega); omega)
      | (have := h1 (by omega); have := h3 (by omega); omega)
      | (have := h2 (by omega); have := h3 (by omega); omega)
/-- numbers of 53 digits are doubles -/
theorem own_rep (c : Int) (j : Nat) (hc : c.natAbs < 2 ^ 53) (hj : j ≤ 2045) : ∃ V, Core.DFin V ∧ own_zv V = c * ((2 ^ j : Nat) : Int) := by
  have hq1 : Core.b64.qmin = -1074 := Core.qmin_b64
  have hq2 : Core.b64.qmax = 971 := by decide
  obtain ⟨c', q', h1, h2⟩ := Core.round_exact Core.good_b64 (decide (c < 0)) (c := c.natAbs) (q := Core.b64.qmin + j) hc (by omega) (by omega)
  have hv : Core.val64 (Core.of64 (Core.round Core.b64 (.fin (decide (c < 0)) c.natAbs (Core.b64.qmin + j)))) = .fin (decide (c < 0)) c' q' := by
    rw [Core.val64_of64 (Core.round_fits Core.good_b64 _), h1]
  refine ⟨_, ⟨_, _, _, hv⟩, ?_⟩
  unfold own_zv; rw [hv]
  show Core.signed (decide (c < 0)) (Core.inUnits c' q' Core.b64.qmin) = _
  rw [h2]; unfold Core.inUnits
  rw [Core.signed_mul, show (Core.b64.qmin + (j : Int) - Core.b64.qmin).toNat = j by omega]
  congr 1
  by_cases h : c < 0
  · simp only [Core.signed, h, decide_true, if_true]; omega
  · simp only [Core.signed, h, decide_false, Bool.false_eq_true, if_false]; omega
theorem own_zv_lt {a : UInt64} (h : Core.DFin a) : (own_zv a).natAbs < Core.b64.tails * 2 ^ (Core.b64.exps - 2) := by
  have := Core.DFin.zval_lt h
  unfold own_zv Core.zval; rw [Core.natAbs_signed]; exact this
theorem own_fin_of {r V : UInt64} (hr : Core.val64 r ≠ .nan) (hV : Core.DFin V) (h : (own_zv r).natAbs ≤ (own_zv V).natAbs) : Core.DFin r := by
  cases e : Core.val64 r with
  | nan => exact absurd e hr
  | inf s =>
    have h1 := own_zv_lt hV
    have h2 : (own_zv r).natAbs = Core.b64.tails * 2 ^ (Core.b64.exps - 2) := by unfold own_zv Core.zval; rw [Core.natAbs_signed, e]; rfl
    omega
  | fin s c q => exact ⟨s, c, q, e⟩
/-- what is representable is not rounded -/
theorem own_exactV {N D : Int} {r V : UInt64} (h : own_rnd N D r) (hV : Core.DFin V) (e : own_zv V * D = N) : Core.DFin r ∧ own_zv r = own_zv V := by
  have h1 := h.2.1 V hV.ne_nan (by omega)
  have h2 := h.2.2 V hV.ne_nan (by omega)
  have h3 : own_zv r = own_zv V := by omega
  exact ⟨own_fin_of h.1 hV (by rw [h3]; exact Nat.le_refl _), h3⟩
theorem own_exact {N D : Int} {r : UInt64} (h : own_rnd N D r) (c : Int) (j : Nat) (hc : c.natAbs < 2 ^ 53) (hj : j ≤ 2045) (e : c * ((2 ^ j : Nat) : Int) * D = N) : Core.DFin r ∧ own_zv r = c * ((2 ^ j : Nat) : Int) := by
  obtain ⟨V, f, z⟩ := own_rep c j hc hj
  rw [← z] at e ⊢
  exact own_exactV h f e
/-! the order -/
theorem own_dcmp {a b : UInt64} (ha : Core.val64 a ≠ .nan) (hb : Core.val64 b ≠ .nan) : FP.dcmp a b = some (compare (own_zv a) (own_zv b)) := Core.dcmp_zval ha hb
theorem own_cmpv {a b : UInt64} (ha : Core.val64 a ≠ .nan) (hb : Core.val64 b ≠ .nan) (o : CmpOp) : cmpValue (FP.dcmp a b) o = if own_zv a < own_zv b then -1 else if own_zv a = own_zv b then 0 else 1 := by
  rw [own_dcmp ha hb, Core.compare_ite]
  by_cases h1 : own_zv a < own_zv b
  · simp only [h1, if_true]; cases o <;> rfl
  · by_cases h2 : own_zv a = own_zv b
    · simp only [h2, Int.lt_irrefl, if_true, if_false]; cases o <;> rfl
    · simp only [h1, h2, if_false]; cases o <;> rfl
theorem own_cmp_le {a b : UInt64} (ha : Core.val64 a ≠ .nan) (hb : Core.val64 b ≠ .nan) (h : own_zv a ≤ own_zv b) (o : CmpOp) : ¬ ((0 : Int32) < cmpValue (FP.dcmp a b) o) := by
  rw [own_cmpv ha hb]
  by_cases h1 : own_zv a < own_zv b
  · rw [if_pos h1]; decide
  · rw [if_neg h1, if_pos (by omega)]; decide
theorem own_cmp_ge {a b : UInt64} (ha : Core.val64 a ≠ .nan) (hb : Core.val64 b ≠ .nan) (h : own_zv b ≤ own_zv a) (o : CmpOp) : ¬ (cmpValue (FP.dcmp a b) o < (0 : Int32)) := by
  rw [own_cmpv ha hb, if_neg (by omega)]
  by_cases h1 : own_zv a = own_zv b
  · rw [if_pos h1]; decide
  · rw [if_neg h1]; decide
theorem own_cmp_lt {a b : UInt64} (ha : Core.val64 a ≠ .nan) (hb : Core.val64 b ≠ .nan) (h : own_zv a < own_zv b) (o : CmpOp) : cmpValue (FP.dcmp a b) o < (0 : Int32) := by
  rw [own_cmpv ha hb, if_pos h]; decide
theorem own_cmp_gt {a b : UInt64} (ha : Core.val64 a ≠ .nan) (hb : Core.val64 b ≠ .nan) (h : own_zv b < own_zv a) (o : CmpOp) : (0 : Int32) < cmpValue (FP.dcmp a b) o := by
  rw [own_cmpv ha hb, if_neg (by omega), if_neg (by omega)]; decide
theorem own_cmp_eq {a b : UInt64} (ha : Core.val64 a ≠ .nan) (hb : Core.val64 b ≠ .nan) (h : own_zv a = own_zv b) (o : CmpOp) : cmpValue (FP.dcmp a b) o = (0 : Int32) := by
  rw [own_cmpv ha hb, if_neg (by omega), if_pos h]
theorem own_cmp_ne {a b : UInt64} (ha : Core.val64 a ≠ .nan) (hb : Core.val64 b ≠ .nan) (h : own_zv a ≠ own_zv b) (o : CmpOp) : ¬ (cmpValue (FP.dcmp a b) o = (0 : Int32)) := by
  rw [own_cmpv ha hb]
  by_cases h1 : own_zv a < own_zv b
  · rw [if_pos h1]; decide
  · rw [if_neg h1, if_neg h]; decide
/-! no NaN -/
theorem own_nn {a : UInt64} (h : Core.val64 a ≠ .nan) : NoNaN64 a := noNaN64_no.mpr ((Core.notNaN_iff a).mpr h)
theorem own_rnd_nn {N D : Int} {r : UInt64} (h : own_rnd N D r) : NoNaN64 r := own_nn h.1
theorem own_fin_nn {a : UInt64} (h : Core.DFin a) : NoNaN64 a := own_nn h.ne_nan
/-! whole numbers -/
theorem own_i2d (x : Int32) : Core.DFin (FP.i2d x) ∧ own_zv (FP.i2d x) = x.toInt * own_U := ⟨Core.i2d_fin x, Core.DInt_zval (Core.i2d_int x)⟩
theorem own_l2d {x : Int64} (h : x.toInt.natAbs ≤ 2 ^ 53) : Core.DFin (FP.l2d x) ∧ own_zv (FP.l2d x) = x.toInt * own_U := ⟨Core.l2d_fin x, Core.DInt_zval (Core.l2d_int h)⟩
theorem own_U_eq : own_U = ((2 ^ 1074 : Nat) : Int) := rfl
end OwnFloat
section OwnFloat2
open Jvm.FP Jvm.FP.Core
theorem own_lt_U {i j : Int} : i * own_U < j * own_U ↔ i < j := by
  have h := own_U_pos
  constructor
  · intro q; exact Int.lt_of_mul_lt_mul_right q (Int.le_of_lt h)
  · intro q; exact Int.mul_lt_mul_of_pos_right q h
theorem own_eq_U {i j : Int} : i * own_U = j * own_U ↔ i = j := by
  have h := own_U_pos
  constructor
  · intro q; exact Int.eq_of_mul_eq_mul_right (by omega) q
  · intro q; rw [q]
/-- a is the whole number i -/
def own_is (i : Int) (a : UInt64) : Prop := Core.DFin a ∧ own_zv a = i * own_U
theorem own_is_i2d (x : Int32) : own_is x.toInt (FP.i2d x) := own_i2d x
theorem own_is_neg0 : own_is 0 (9223372036854775808 : UInt64) := ⟨by rw [Core.fin_bits]; decide, by decide +kernel⟩
theorem own_is_0 : own_is 0 (0 : UInt64) := ⟨by rw [Core.fin_bits]; decide, by decide +kernel⟩
theorem own_cmpU {a b : UInt64} {i j : Int} (ha : own_is i a) (hb : own_is j b) (o : CmpOp) : cmpValue (FP.dcmp a b) o = if i < j then -1 else if i = j then 0 else 1 := by
  rw [own_cmpv ha.1.ne_nan hb.1.ne_nan, ha.2, hb.2]; simp only [own_lt_U, own_eq_U]
end OwnFloat2
section OwnFloat3
open Jvm.FP Jvm.FP.Core
theorem own_is_dneg {i : Int} {a : UInt64} (h : own_is i a) : own_is (-i) (FP.dneg a) := by
  obtain ⟨f, z⟩ := own_dneg_zv h.1
  exact ⟨f, by rw [z, h.2, Int.neg_mul]⟩
theorem own_self {a : UInt64} (h : Core.DFin a) (o : CmpOp) : cmpValue (FP.dcmp a a) o = (0 : Int32) := own_cmp_eq h.ne_nan h.ne_nan rfl o
/-- x - x is nought -/
theorem own_dsub_self {a : UInt64} (h : Core.DFin a) : FP.dsub a a = 0 := by
  obtain ⟨s, c, q, e⟩ := h
  exact Core.dsub_self e
end OwnFloat3
section OwnFloat4
open Jvm.FP Jvm.FP.Core
theorem own_rep_le (c : Int) (j : Nat) (hc : c.natAbs ≤ 2 ^ 53) (hj : j ≤ 2044) : ∃ V, Core.DFin V ∧ own_zv V = c * ((2 ^ j : Nat) : Int) := by
  by_cases h : c.natAbs < 2 ^ 53
  · exact own_rep c j h (by omega)
  · obtain ⟨V, f, z⟩ := own_rep (c / 2) (j + 1) (by omega) (by omega)
    refine ⟨V, f, ?_⟩
    rw [z, Nat.pow_succ, Int.natCast_mul]
    have : c = c / 2 * 2 := by omega
    rw [Int.mul_comm ((2 ^ j : Nat) : Int), ← Int.mul_assoc]
    have e : c / 2 * ((2 : Nat) : Int) = c := by omega
    rw [e]
theorem own_rnd_scale {N D k : Int} {r : UInt64} (hk : 0 < k) (h : own_rnd (N * k) (D * k) r) : own_rnd N D r := by
  refine ⟨h.1, fun V hV q => h.2.1 V hV ?_, fun V hV q => h.2.2 V hV ?_⟩
  · rw [← Int.mul_assoc]; exact Int.mul_le_mul_of_nonneg_right q (Int.le_of_lt hk)
  · rw [← Int.mul_assoc]; exact Int.mul_le_mul_of_nonneg_right q (Int.le_of_lt hk)
/-- the relative error, one unit in the last place at the most -/
theorem own_rel {N D : Int} {r : UInt64} (h : own_rnd N D r) (hD : 0 < D) (lo : 4503599627370496 * D ≤ N) (hi : N / D < ((2 ^ 2096 : Nat) : Int)) :
    Core.DFin r ∧ 4503599627370496 * (own_zv r * D - N) ≤ N ∧ 4503599627370496 * (N - own_zv r * D) ≤ N := by
  have hM : 4503599627370496 ≤ N / D := Int.le_ediv_of_mul_le hD lo
  obtain ⟨m, hm⟩ : ∃ m : Nat, N / D = (m : Int) := ⟨(N / D).toNat, by omega⟩
  have hN := Int.mul_ediv_add_emod N D
  have hr0 := Int.emod_nonneg N (show D ≠ 0 by omega)
  have hr1 := Int.emod_lt_of_pos N hD
  have m0 : m ≠ 0 := by omega
  have l1 : 2 ^ m.log2 ≤ m := Nat.log2_self_le m0
  have l2 : m < 2 ^ (m.log2 + 1) := Nat.lt_log2_self
  have l3 : 52 ≤ m.log2 := by
    apply Nat.le_of_lt_succ
    apply (Nat.pow_lt_pow_iff_right (by decide : 1 < 2)).mp
    exact Nat.lt_of_le_of_lt (show 2 ^ 52 ≤ m by omega) l2
  have l4 : m.log2 < 2096 := by
    apply (Nat.pow_lt_pow_iff_right (by decide : 1 < 2)).mp
    exact Nat.lt_of_le_of_lt l1 (by rw [hm] at hi; exact Int.ofNat_lt.mp hi)
  obtain ⟨e, he⟩ : ∃ e, m.log2 = e + 52 := ⟨m.log2 - 52, by omega⟩
  have hg : 0 < 2 ^ e := Nat.two_pow_pos e
  have p1 : 2 ^ m.log2 = 2 ^ e * 4503599627370496 := by rw [he, Nat.pow_add]
  have p2 : 2 ^ (m.log2 + 1) = 2 ^ e * 9007199254740992 := by rw [he, Nat.pow_add, Nat.pow_add]; omega
  have dm := Nat.div_add_mod m (2 ^ e)
  have ml := Nat.mod_lt m hg
  have k1 : 4503599627370496 ≤ m / 2 ^ e := (Nat.le_div_iff_mul_le hg).mpr (by rw [Nat.mul_comm]; omega)
  have k2 : m / 2 ^ e < 9007199254740992 := (Nat.div_lt_iff_lt_mul hg).mpr (by rw [Nat.mul_comm]; omega)
  obtain ⟨V1, f1, z1⟩ := own_rep_le ((m / 2 ^ e : Nat) : Int) e (by omega) (by omega)
  obtain ⟨V2, f2, z2⟩ := own_rep_le ((m / 2 ^ e + 1 : Nat) : Int) e (by omega) (by omega)
  have a1 : ((m / 2 ^ e : Nat) : Int) * ((2 ^ e : Nat) : Int) ≤ (m : Int) := by rw [← Int.natCast_mul]; exact Int.ofNat_le.mpr (Nat.div_mul_le_self _ _)
  have a2 : (m : Int) + 1 ≤ ((m / 2 ^ e + 1 : Nat) : Int) * ((2 ^ e : Nat) : Int) := by
    rw [← Int.natCast_mul]; have : m + 1 ≤ (m / 2 ^ e + 1) * 2 ^ e := by rw [Nat.add_mul, Nat.one_mul, Nat.mul_comm]; omega
    exact Int.ofNat_le.mpr this
  have a3 : ((m / 2 ^ e + 1 : Nat) : Int) * ((2 ^ e : Nat) : Int) = ((m / 2 ^ e : Nat) : Int) * ((2 ^ e : Nat) : Int) + ((2 ^ e : Nat) : Int) := by
    rw [Int.natCast_add, Int.add_mul]; simp
  have a4 : 4503599627370496 * ((2 ^ e : Nat) : Int) ≤ (m : Int) := by
    have : 2 ^ e * 4503599627370496 ≤ m := by omega
    omega
  have b1 : own_zv V1 * D ≤ N := by
    rw [z1]; have := Int.mul_le_mul_of_nonneg_right a1 (Int.le_of_lt hD); rw [hm, Int.mul_comm] at hN; omega
  have b2 : N ≤ own_zv V2 * D := by
    rw [z2]; have := Int.mul_le_mul_of_nonneg_right a2 (Int.le_of_lt hD); rw [Int.add_mul, Int.one_mul] at this; rw [hm, Int.mul_comm] at hN; omega
  have c1 := h.2.1 V1 f1.ne_nan b1
  have c2 := h.2.2 V2 f2.ne_nan b2
  rw [z1] at c1 b1; rw [z2] at c2 b2
  have d1 := Int.mul_le_mul_of_nonneg_right c1 (Int.le_of_lt hD)
  have d2 := Int.mul_le_mul_of_nonneg_right c2 (Int.le_of_lt hD)
  have d3 := Int.mul_le_mul_of_nonneg_right a4 (Int.le_of_lt hD)
  rw [a3, Int.add_mul] at d2 b2
  have d4 : (m : Int) * D ≤ N := by rw [hm, Int.mul_comm] at hN; omega
  rw [Int.mul_assoc] at d3
  refine ⟨own_fin_of h.1 f2 ?_, by omega, by omega⟩
  rw [z2]
  have s0 : 0 ≤ ((m / 2 ^ e : Nat) : Int) * ((2 ^ e : Nat) : Int) := Int.mul_nonneg (Int.natCast_nonneg _) (Int.natCast_nonneg _)
  omega
theorem own_is_mul {i j : Int} {a b : UInt64} (ha : own_is i a) (hb : own_is j b) (h : (i * j).natAbs < 2 ^ 53) : own_is (i * j) (FP.dmul a b) := by
  refine own_exact (own_dmul_rnd ha.1 hb.1) (i * j) 1074 h (by decide) ?_
  rw [ha.2, hb.2, ← own_U_eq]; simp only [Int.mul_assoc, Int.mul_comm, Int.mul_left_comm]
theorem own_is_add {i j : Int} {a b : UInt64} (ha : own_is i a) (hb : own_is j b) (h : (i + j).natAbs < 2 ^ 53) : own_is (i + j) (FP.dadd a b) := by
  refine own_exact (own_dadd_rnd ha.1 hb.1) (i + j) 1074 h (by decide) ?_
  rw [ha.2, hb.2, ← own_U_eq, Int.mul_one, Int.add_mul]
theorem own_is_sub {i j : Int} {a b : UInt64} (ha : own_is i a) (hb : own_is j b) (h : (i - j).natAbs < 2 ^ 53) : own_is (i - j) (FP.dsub a b) := by
  refine own_exact (own_dsub_rnd ha.1 hb.1) (i - j) 1074 h (by decide) ?_
  rw [ha.2, hb.2, ← own_U_eq, Int.mul_one, Int.sub_mul]
theorem own_is_l2d {x : Int64} (h : x.toInt.natAbs ≤ 2 ^ 53) : own_is x.toInt (FP.l2d x) := own_l2d h
/-- the quotient of two whole numbers, the divisor positive -/
theorem own_is_div_rnd {i j : Int} {a b : UInt64} (ha : own_is i a) (hb : own_is j b) (hj : 0 < j) : own_rnd (i * own_U) j (FP.ddiv a b) := by
  have hU := own_U_pos
  have hz : 0 < own_zv b := by rw [hb.2]; exact Int.mul_pos hj hU
  have h := own_ddiv_rnd ha.1 hb.1 (by omega)
  rw [if_pos hz, Int.natAbs_of_nonneg (Int.le_of_lt hz), ha.2, hb.2] at h
  exact own_rnd_scale hU h
end OwnFloat4
section OwnFloat5
open Jvm.FP Jvm.FP.Core
/-- a is c * 2^(j - 1074) -/
def own_at (c : Int) (j : Nat) (a : UInt64) : Prop := Core.DFin a ∧ own_zv a = c * ((2 ^ j : Nat) : Int)
theorem own_at_is {i : Int} {a : UInt64} (h : own_is i a) : own_at i 1074 a := h
theorem own_at_add {c1 c2 : Int} {j : Nat} {a b : UInt64} (ha : own_at c1 j a) (hb : own_at c2 j b) (h : (c1 + c2).natAbs < 2 ^ 53) (hj : j ≤ 2045) : own_at (c1 + c2) j (FP.dadd a b) := by
  refine own_exact (own_dadd_rnd ha.1 hb.1) (c1 + c2) j h hj ?_
  rw [ha.2, hb.2, Int.mul_one, Int.add_mul]
theorem own_at_sub {c1 c2 : Int} {j : Nat} {a b : UInt64} (ha : own_at c1 j a) (hb : own_at c2 j b) (h : (c1 - c2).natAbs < 2 ^ 53) (hj : j ≤ 2045) : own_at (c1 - c2) j (FP.dsub a b) := by
  refine own_exact (own_dsub_rnd ha.1 hb.1) (c1 - c2) j h hj ?_
  rw [ha.2, hb.2, Int.mul_one, Int.sub_mul]
theorem own_at_mul {c1 c2 : Int} {j1 j2 : Nat} {a b : UInt64} (ha : own_at c1 j1 a) (hb : own_at c2 j2 b) (j : Nat) (e : j1 + j2 = j + 1074) (h : (c1 * c2).natAbs < 2 ^ 53) (hj : j ≤ 2045) : own_at (c1 * c2) j (FP.dmul a b) := by
  refine own_exact (own_dmul_rnd ha.1 hb.1) (c1 * c2) j h hj ?_
  have p : ((2 ^ j : Nat) : Int) * own_U = ((2 ^ j1 : Nat) : Int) * ((2 ^ j2 : Nat) : Int) := by rw [own_U_eq, ← Int.natCast_mul, ← Int.natCast_mul, ← Nat.pow_add, ← Nat.pow_add, e]
  rw [ha.2, hb.2, Int.mul_assoc (c1 * c2), p]; simp only [Int.mul_assoc, Int.mul_comm, Int.mul_left_comm]
/-- a quotient that is exact -/
theorem own_at_div {c1 c2 c : Int} {j1 j2 : Nat} {a b : UInt64} (ha : own_at c1 j1 a) (hb : own_at c2 j2 b) (hc : 0 < c2) (j : Nat) (e : c * c2 * ((2 ^ (j + j2) : Nat) : Int) = c1 * ((2 ^ (j1 + 1074) : Nat) : Int)) (h : c.natAbs < 2 ^ 53) (hj : j ≤ 2045) : own_at c j (FP.ddiv a b) := by
  have hz : 0 < own_zv b := by rw [hb.2]; exact Int.mul_pos hc (Int.natCast_pos.mpr (Nat.two_pow_pos _))
  have hr := own_ddiv_rnd ha.1 hb.1 (by omega)
  rw [if_pos hz, Int.natAbs_of_nonneg (Int.le_of_lt hz)] at hr
  refine own_exact hr c j h hj ?_
  rw [ha.2, hb.2, own_U_eq]
  rw [Nat.pow_add, Nat.pow_add, Int.natCast_mul, Int.natCast_mul] at e
  have l : c * ((2 ^ j : Nat) : Int) * (c2 * ((2 ^ j2 : Nat) : Int)) = c * c2 * (((2 ^ j : Nat) : Int) * ((2 ^ j2 : Nat) : Int)) := by simp only [Int.mul_assoc, Int.mul_comm, Int.mul_left_comm]
  rw [l, e, Int.mul_assoc]
theorem own_at_up {c : Int} {j i : Nat} {a : UInt64} (h : own_at c (j + i) a) : own_at (c * ((2 ^ i : Nat) : Int)) j a :=
  ⟨h.1, by rw [h.2, Nat.pow_add, Int.natCast_mul, Int.mul_assoc, Int.mul_comm ((2 ^ i : Nat) : Int)]⟩
theorem own_at_dn {c : Int} {j i : Nat} {a : UInt64} (h : own_at (c * ((2 ^ i : Nat) : Int)) j a) : own_at c (j + i) a :=
  ⟨h.1, by rw [h.2, Nat.pow_add, Int.natCast_mul, Int.mul_assoc, Int.mul_comm ((2 ^ i : Nat) : Int)]⟩
theorem own_at_eq {c : Int} {j : Nat} {a b : UInt64} (ha : own_at c j a) (hb : own_at c j b) (o : CmpOp) : cmpValue (FP.dcmp a b) o = (0 : Int32) := own_cmp_eq ha.1.ne_nan hb.1.ne_nan (by rw [ha.2, hb.2]) o
theorem own_at_nn {c : Int} {j : Nat} {a : UInt64} (h : own_at c j a) : NoNaN64 a := own_fin_nn h.1
end OwnFloat5
section OwnFloat6
open Jvm.FP Jvm.FP.Core
theorem own_is_div {k j : Int} {a b : UInt64} (ha : own_is (k * j) a) (hb : own_is j b) (hj : j ≠ 0) (h : k.natAbs < 2 ^ 53) : own_is k (FP.ddiv a b) := by
  have hU := own_U_pos
  have hz : own_zv b ≠ 0 := by rw [hb.2]; intro q; rcases Int.mul_eq_zero.mp q with q | q <;> omega
  refine own_exact (own_ddiv_rnd ha.1 hb.1 hz) k 1074 h (by decide) ?_
  rw [← own_U_eq]
  by_cases q : 0 < own_zv b
  · rw [if_pos q, Int.natAbs_of_nonneg (Int.le_of_lt q), ha.2, hb.2]; simp only [Int.mul_assoc, Int.mul_comm, Int.mul_left_comm]
  · rw [if_neg q]
    have e : ((own_zv b).natAbs : Int) = -own_zv b := by omega
    rw [e, ha.2, hb.2, Int.mul_neg]; congr 1; simp only [Int.mul_assoc, Int.mul_comm, Int.mul_left_comm]
theorem own_fin_between {r V1 V2 : UInt64} (hr : Core.val64 r ≠ .nan) (h1 : Core.DFin V1) (h2 : Core.DFin V2) (a : own_zv V1 ≤ own_zv r) (b : own_zv r ≤ own_zv V2) : Core.DFin r := by
  by_cases q : (own_zv r).natAbs ≤ (own_zv V1).natAbs
  · exact own_fin_of hr h1 q
  · exact own_fin_of hr h2 (by omega)
/-- a quotient by a whole number, of any dividend -/
theorem own_div_rnd {j : Int} {a b : UInt64} (ha : Core.DFin a) (hb : own_is j b) (hj : 0 < j) : own_rnd (own_zv a) j (FP.ddiv a b) := by
  have hU := own_U_pos
  have hz : 0 < own_zv b := by rw [hb.2]; exact Int.mul_pos hj hU
  have h := own_ddiv_rnd ha hb.1 (by omega)
  rw [if_pos hz, Int.natAbs_of_nonneg (Int.le_of_lt hz), hb.2] at h
  exact own_rnd_scale hU h
theorem own_rep_is (k : Int) (h : k.natAbs < 2 ^ 53) : ∃ V, own_is k V := own_rep k 1074 h (by decide)
end OwnFloat6
section OwnFloat7
open Jvm.FP Jvm.FP.Core
/-- one value, not nought: one pattern of bits -/
theorem own_bits {a b : UInt64} (ha : Core.DFin a) (hb : Core.DFin b) (e : own_zv a = own_zv b) (h : own_zv b ≠ 0) : a = b := by
  refine Core.eq_bits (fun q => h ?_) ?_
  · have := Core.DZero.zval q; exact this
  · show FP.dcmp a b = _
    rw [own_dcmp ha.ne_nan hb.ne_nan, e, Core.compare_self_int]
theorem own_at_bits {c : Int} {j : Nat} {a b : UInt64} (ha : own_at c j a) (hb : own_at c j b) (h : c ≠ 0) : a = b := by
  refine own_bits ha.1 hb.1 (by rw [ha.2, hb.2]) ?_
  rw [hb.2]; intro q
  rcases Int.mul_eq_zero.mp q with q | q
  · exact h q
  · have := Nat.two_pow_pos j; omega
theorem own_fin64 {a : UInt64} (h : Core.DFin a) : Fin64 a := fin64_core.mpr h
end OwnFloat7
section OwnFloat8
open Jvm.FP Jvm.FP.Core
/-- r's magnitude is A / B (units of 2^-1074), rounded to nearest -/
def own_rr (A B : Nat) (r : UInt64) : Prop := 0 < B ∧ ∃ s, Core.val64 r = Core.roundRatio Core.b64 s A B Core.b64.qmin
theorem own_mag {a : UInt64} : (own_zv a).natAbs = Core.zmag Core.b64 (Core.val64 a) := by unfold own_zv Core.zval; rw [Core.natAbs_signed]
theorem own_in0 (A : Nat) : Core.inUnits A Core.b64.qmin Core.b64.qmin = A := by unfold Core.inUnits; rw [own_pow0, Nat.mul_one]
theorem own_rr_mono {A1 B1 A2 B2 : Nat} {r1 r2 : UInt64} (h1 : own_rr A1 B1 r1) (h2 : own_rr A2 B2 r2) (f1 : Core.DFin r1) (f2 : Core.DFin r2) (h : A1 * B2 ≤ A2 * B1) : (own_zv r1).natAbs ≤ (own_zv r2).natAbs := by
  obtain ⟨b1, s1, e1⟩ := h1
  obtain ⟨b2, s2, e2⟩ := h2
  have n1 := f1.ne_nan; have n2 := f2.ne_nan
  rw [own_mag, own_mag]
  by_cases q1 : A1 ≤ Core.zmag Core.b64 (Core.val64 r2) * B1
  · have := Core.zmag_roundRatio_le Core.good_b64 (s := s1) (A := A1) (B := B1) (e := Core.b64.qmin) (e0 := Core.b64.qmin) b1 (Core.val64_fits r2) n2 (Int.le_refl _) (Int.le_refl _) (by rw [own_in0, own_pow0, Nat.mul_one]; exact q1)
    rw [← e1] at this; exact this
  · by_cases q2 : Core.zmag Core.b64 (Core.val64 r1) * B2 ≤ A2
    · have := Core.zmag_roundRatio_ge Core.good_b64 (s := s2) (A := A2) (B := B2) (e := Core.b64.qmin) (e0 := Core.b64.qmin) b2 (Core.val64_fits r1) (Int.le_refl _) (Int.le_refl _) (by rw [own_in0, own_pow0, Nat.mul_one]; exact q2)
      rw [← e2] at this; exact this
    · apply Nat.le_of_not_lt; intro hlt
      obtain ⟨t1, c1, x1, v1⟩ := f1
      obtain ⟨t2, c2, x2, v2⟩ := f2
      have g1 := Core.val64_fits r1; rw [v1] at g1
      have g2 := Core.val64_fits r2; rw [v2] at g2
      have d1 := Core.roundRatio_nearest Core.good_b64 (e0 := Core.b64.qmin) b1 (e1.symm.trans v1) g2.1 g2.2.1 (Int.le_refl _) (Int.le_refl _)
      have d2 := Core.roundRatio_nearest Core.good_b64 (e0 := Core.b64.qmin) b2 (e2.symm.trans v2) g1.1 g1.2.1 (Int.le_refl _) (Int.le_refl _)
      unfold Core.distance at d1 d2
      rw [own_in0] at d1 d2
      have z1 : Core.zmag Core.b64 (Core.val64 r1) = Core.inUnits c1 x1 Core.b64.qmin := by rw [v1]; rfl
      have z2 : Core.zmag Core.b64 (Core.val64 r2) = Core.inUnits c2 x2 Core.b64.qmin := by rw [v2]; rfl
      rw [← z1, ← z2] at d1 d2
      generalize hz1 : Core.zmag Core.b64 (Core.val64 r1) = Z1 at *
      generalize hz2 : Core.zmag Core.b64 (Core.val64 r2) = Z2 at *
      rw [← Int.natCast_mul, ← Int.natCast_mul] at d1 d2
      -- A1 < Z1 * B1 as well
      have k1 : A1 * B2 < Z1 * B1 * B2 := by
        have : A2 * B1 < Z1 * B2 * B1 := Nat.mul_lt_mul_of_pos_right (by omega) b1
        have e : Z1 * B2 * B1 = Z1 * B1 * B2 := by simp only [Nat.mul_assoc, Nat.mul_comm, Nat.mul_left_comm]
        omega
      have k2 : A1 < Z1 * B1 := Nat.lt_of_mul_lt_mul_right k1
      have k3 : Z2 * B1 * B2 < A2 * B1 := by
        have : Z2 * B1 * B2 < A1 * B2 := Nat.mul_lt_mul_of_pos_right (by omega) b2
        omega
      have k4 : Z2 * B2 < A2 := by
        have e : Z2 * B1 * B2 = Z2 * B2 * B1 := by simp only [Nat.mul_assoc, Nat.mul_comm, Nat.mul_left_comm]
        rw [e] at k3; exact Nat.lt_of_mul_lt_mul_right k3
      have m1 : (Z1 + Z2) * B1 ≤ 2 * A1 := by rw [Nat.add_mul]; omega
      have m2 : 2 * A2 ≤ (Z1 + Z2) * B2 := by rw [Nat.add_mul]; omega
      have m3 := Nat.mul_le_mul_right B2 m1
      have m4 := Nat.mul_le_mul_right B1 m2
      have e3 : (Z1 + Z2) * B1 * B2 = (Z1 + Z2) * B2 * B1 := by simp only [Nat.mul_assoc, Nat.mul_comm, Nat.mul_left_comm]
      have e4 : 2 * A1 * B2 = 2 * (A1 * B2) := Nat.mul_assoc _ _ _
      have e5 : 2 * A2 * B1 = 2 * (A2 * B1) := Nat.mul_assoc _ _ _
      have e6 : A1 * B2 = A2 * B1 := by omega
      have cg := Core.roundRatio_congr (f := Core.b64) (s := s1) (e := Core.b64.qmin) (e' := Core.b64.qmin) b1 b2 (by rw [own_pow0, Nat.mul_one, Nat.mul_one]; exact e6)
      have w1 := Core.zmag_roundRatio_le Core.good_b64 (s := s1) (A := A2) (B := B2) (e := Core.b64.qmin) (e0 := Core.b64.qmin) (V := Core.val64 r2) b2 (Core.val64_fits r2) n2 (Int.le_refl _) (Int.le_refl _)
      -- one sign or the other: the magnitudes are one
      have sg : Core.zmag Core.b64 (Core.roundRatio Core.b64 s1 A2 B2 Core.b64.qmin) = Core.zmag Core.b64 (Core.roundRatio Core.b64 s2 A2 B2 Core.b64.qmin) := by
        by_cases q : s1 = s2
        · rw [q]
        · have e : s2 = !s1 := by cases s1 <;> cases s2 <;> simp at q ⊢
          have ng := Core.negate_roundRatio Core.b64 s1 A2 B2 Core.b64.qmin
          rw [e, ← ng]
          cases Core.roundRatio Core.b64 s1 A2 B2 Core.b64.qmin <;> rfl
      rw [← cg, ← e1, ← e2, hz1, hz2] at sg
      omega
theorem own_rr_of_round {x : UInt64} {sg : Bool} {n : Nat} {e : Int} {A B : Nat} (hx : Core.val64 x = Core.round Core.b64 (.fin sg n e)) (hB : 0 < B) (h : n * B * 2 ^ (e - Core.b64.qmin).toNat = A * 1 * 2 ^ (Core.b64.qmin - e).toNat) : own_rr A B x :=
  ⟨hB, sg, hx.trans (Core.roundRatio_congr (f := Core.b64) (s := sg) (by decide) hB h)⟩
theorem own_rr_dmul {a b : UInt64} (ha : Core.DFin a) (hb : Core.DFin b) : own_rr ((own_zv a).natAbs * (own_zv b).natAbs) Core.one64 (FP.dmul a b) := by
  obtain ⟨s, c, q, ea⟩ := ha
  obtain ⟨t, d, r, eb⟩ := hb
  have fa := Core.val64_fits a; have fb := Core.val64_fits b
  rw [ea] at fa; rw [eb] at fb
  have h1 := fa.2.1; have h2 := fb.2.1
  have hq := Core.qmin_neg Core.good_b64
  have hv : Core.val64 (FP.dmul a b) = Core.round Core.b64 (.fin (s != t) (c * d) (q + r)) := by
    show Core.val64 (Core.dmul a b) = _
    rw [Core.val64_dmul, ea, eb]; rfl
  refine own_rr_of_round hv Core.one64_pos ?_
  rw [own_mag, own_mag, ea, eb]
  show _ = Core.inUnits c q Core.b64.qmin * Core.inUnits d r Core.b64.qmin * 1 * _
  unfold Core.inUnits
  rw [← Core.pow_qmin64, Nat.mul_one]
  have l : c * d * 2 ^ (-Core.b64.qmin).toNat * 2 ^ (q + r - Core.b64.qmin).toNat = c * d * 2 ^ ((-Core.b64.qmin).toNat + (q + r - Core.b64.qmin).toNat) := by rw [Nat.pow_add, Nat.mul_assoc (c * d)]
  have m : c * 2 ^ (q - Core.b64.qmin).toNat * (d * 2 ^ (r - Core.b64.qmin).toNat) * 2 ^ (Core.b64.qmin - (q + r)).toNat = c * d * 2 ^ ((q - Core.b64.qmin).toNat + (r - Core.b64.qmin).toNat + (Core.b64.qmin - (q + r)).toNat) := by
    rw [Nat.pow_add, Nat.pow_add]; simp only [Nat.mul_assoc, Nat.mul_comm, Nat.mul_left_comm]
  rw [l, m]; congr 2; omega
theorem own_rr_dadd {a b : UInt64} (ha : Core.DFin a) (hb : Core.DFin b) : own_rr (own_zv a + own_zv b).natAbs 1 (FP.dadd a b) := by
  obtain ⟨s, c, q, ea⟩ := ha
  obtain ⟨t, d, r, eb⟩ := hb
  have fa := Core.val64_fits a; have fb := Core.val64_fits b
  rw [ea] at fa; rw [eb] at fb
  obtain ⟨sg, n, e, h1, h2, h3⟩ := Core.sum_units fa fb
  have hv : Core.val64 (FP.dadd a b) = Core.round Core.b64 (.fin sg n e) := by
    show Core.val64 (Core.dadd a b) = _
    rw [Core.val64_dadd, ea, eb, h1]
  refine own_rr_of_round hv (by decide) ?_
  have z : (own_zv a + own_zv b).natAbs = Core.inUnits n e Core.b64.qmin := by
    unfold own_zv; rw [ea, eb, ← h3, Core.natAbs_signed]
  rw [z, Nat.mul_one, Nat.mul_one]
  unfold Core.inUnits
  rw [show (Core.b64.qmin - e).toNat = 0 by omega, Nat.pow_zero, Nat.mul_one]
theorem own_rr_ddiv {a b : UInt64} (ha : Core.DFin a) (hb : Core.DFin b) (hz : own_zv b ≠ 0) : own_rr ((own_zv a).natAbs * Core.one64) (own_zv b).natAbs (FP.ddiv a b) := by
  obtain ⟨s, c, q, ea⟩ := ha
  obtain ⟨t, d, r, eb⟩ := hb
  have fa := Core.val64_fits a; have fb := Core.val64_fits b
  rw [ea] at fa; rw [eb] at fb
  have h1 := fa.2.1; have h2 := fb.2.1
  have hq := Core.qmin_neg Core.good_b64
  have zb : own_zv b = Core.signed t (Core.inUnits d r Core.b64.qmin) := by unfold own_zv; rw [eb]; rfl
  have d0 : d ≠ 0 := fun h => hz (by rw [zb, h]; unfold Core.inUnits; rw [Nat.zero_mul]; exact Core.signed_zero t)
  have hv : Core.val64 (FP.ddiv a b) = Core.roundRatio Core.b64 (s != t) c d (q - r) := by
    show Core.val64 (Core.ddiv a b) = _
    rw [Core.val64_ddiv, ea, eb]; show (if d = 0 then _ else _) = _; rw [if_neg d0]
  refine ⟨by omega, s != t, hv.trans (Core.roundRatio_congr (Nat.pos_of_ne_zero d0) (by omega) ?_)⟩
  rw [own_mag, own_mag, ea, eb]
  show c * Core.inUnits d r Core.b64.qmin * _ = Core.inUnits c q Core.b64.qmin * Core.one64 * d * _
  unfold Core.inUnits
  rw [← Core.pow_qmin64]
  have l : c * (d * 2 ^ (r - Core.b64.qmin).toNat) * 2 ^ (q - r - Core.b64.qmin).toNat = c * d * 2 ^ ((r - Core.b64.qmin).toNat + (q - r - Core.b64.qmin).toNat) := by
    rw [Nat.pow_add]; simp only [Nat.mul_assoc, Nat.mul_comm, Nat.mul_left_comm]
  have m : c * 2 ^ (q - Core.b64.qmin).toNat * 2 ^ (-Core.b64.qmin).toNat * d * 2 ^ (Core.b64.qmin - (q - r)).toNat = c * d * 2 ^ ((q - Core.b64.qmin).toNat + (-Core.b64.qmin).toNat + (Core.b64.qmin - (q - r)).toNat) := by
    rw [Nat.pow_add, Nat.pow_add]; simp only [Nat.mul_assoc, Nat.mul_comm, Nat.mul_left_comm]
  rw [l, m]; congr 2; omega
end OwnFloat8
section OwnFloat9
open Jvm.FP Jvm.FP.Core
/-- a quotient by a power of two -/
theorem own_at_divp {c : Int} {j i : Nat} {a b : UInt64} (ha : own_at c (j + i) a) (hb : own_at 1 (1074 + i) b) (h : c.natAbs < 2 ^ 53) (hj : j ≤ 2045) : own_at c j (FP.ddiv a b) := by
  refine own_at_div ha hb (by decide) j ?_ h hj
  rw [Int.mul_one, show j + (1074 + i) = j + i + 1074 by omega]
theorem own_8d : own_at 1 (1074 + 3) (4620693217682128896 : UInt64) := ⟨by rw [Core.fin_bits]; decide, by decide +kernel⟩
theorem own_2d : own_at 1 (1074 + 1) (4611686018427387904 : UInt64) := ⟨by rw [Core.fin_bits]; decide, by decide +kernel⟩
end OwnFloat9
section OwnFloat10
open Jvm.FP Jvm.FP.Core
/-- a lies from 0 to X -/
def own_bd (X : Int) (a : UInt64) : Prop := Core.DFin a ∧ 0 ≤ own_zv a ∧ own_zv a ≤ X * own_U
theorem own_bd_of {N D X : Int} {r : UInt64} (h : own_rnd N D r) (hX : 0 ≤ X) (hX2 : X.natAbs < 2 ^ 53) (hD : 0 ≤ D) (h0 : 0 ≤ N) (h1 : N ≤ X * own_U * D) : own_bd X r := by
  obtain ⟨V, f, z⟩ := own_rep_is X hX2
  have a := h.2.1 0 own_is_0.1.ne_nan (by rw [own_is_0.2, Int.zero_mul, Int.zero_mul]; exact h0)
  have b := h.2.2 V f.ne_nan (by rw [z]; exact h1)
  rw [own_is_0.2, Int.zero_mul] at a
  have p : 0 ≤ X * own_U := Int.mul_nonneg hX (Int.le_of_lt own_U_pos)
  refine ⟨own_fin_of h.1 f (by rw [z] at b ⊢; omega), a, by rw [z] at b; exact b⟩
theorem own_bd_mul {X Y : Int} {a b : UInt64} (ha : own_bd X a) (hb : own_bd Y b) (hX : 0 ≤ X) (hY : 0 ≤ Y) (h : (X * Y).natAbs < 2 ^ 53) : own_bd (X * Y) (FP.dmul a b) := by
  have hU := own_U_pos
  refine own_bd_of (own_dmul_rnd ha.1 hb.1) (Int.mul_nonneg hX hY) h (Int.le_of_lt hU) (Int.mul_nonneg ha.2.1 hb.2.1) ?_
  have e : X * Y * own_U * own_U = (X * own_U) * (Y * own_U) := by simp only [Int.mul_assoc, Int.mul_comm, Int.mul_left_comm]
  rw [e]
  exact Int.mul_le_mul ha.2.2 hb.2.2 hb.2.1 (Int.mul_nonneg hX (Int.le_of_lt hU))
theorem own_bd_add {X Y : Int} {a b : UInt64} (ha : own_bd X a) (hb : own_bd Y b) (hX : 0 ≤ X) (hY : 0 ≤ Y) (h : (X + Y).natAbs < 2 ^ 53) : own_bd (X + Y) (FP.dadd a b) := by
  have h1 := ha.2.1; have h2 := hb.2.1; have h3 := ha.2.2; have h4 := hb.2.2
  refine own_bd_of (own_dadd_rnd ha.1 hb.1) (by omega) h (by decide) (by omega) ?_
  rw [Int.mul_one, Int.add_mul]; omega
theorem own_bd_div {X m : Int} {a b : UInt64} (ha : own_bd X a) (hb : Core.DFin b) (hp : 0 < own_zv b) (hm : own_U ≤ m * own_zv b) (hX : 0 ≤ X) (h0 : 0 ≤ m) (h : (X * m).natAbs < 2 ^ 53) : own_bd (X * m) (FP.ddiv a b) := by
  have hU := own_U_pos
  have hr := own_ddiv_rnd ha.1 hb (by omega)
  rw [if_pos hp, Int.natAbs_of_nonneg (Int.le_of_lt hp)] at hr
  refine own_bd_of hr (Int.mul_nonneg hX h0) h (Int.le_of_lt hp) (Int.mul_nonneg ha.2.1 (Int.le_of_lt hU)) ?_
  have e : X * m * own_U * own_zv b = (X * own_U) * (m * own_zv b) := by simp only [Int.mul_assoc, Int.mul_comm, Int.mul_left_comm]
  rw [e]
  exact Int.mul_le_mul ha.2.2 hm (Int.le_of_lt hU) (Int.mul_nonneg hX (Int.le_of_lt hU))
theorem own_bd_is {i : Int} {a : UInt64} (h : own_is i a) (h0 : 0 ≤ i) {X : Int} (hX : i ≤ X) : own_bd X a := ⟨h.1, by rw [h.2]; exact Int.mul_nonneg h0 (Int.le_of_lt own_U_pos), by rw [h.2]; exact Int.mul_le_mul_of_nonneg_right hX (Int.le_of_lt own_U_pos)⟩
end OwnFloat10

theorem own_d1_0 : decode jdk_29_method_65_code 0 = .ok (.iload_n 0, 1) := by decide +kernel
theorem own_d1_1 : decode jdk_29_method_65_code 1 = .ok (.iload_n 1, 1) := by decide +kernel
theorem own_d1_2 : decode jdk_29_method_65_code 2 = .ok (.if_icmp .lt 7, 3) := by decide +kernel
theorem own_d1_5 : decode jdk_29_method_65_code 5 = .ok (.iload_n 0, 1) := by decide +kernel
theorem own_d1_6 : decode jdk_29_method_65_code 6 = .ok (.goto 4, 3) := by decide +kernel
theorem own_d1_9 : decode jdk_29_method_65_code 9 = .ok (.iload_n 1, 1) := by decide +kernel
theorem own_d1_10 : decode jdk_29_method_65_code 10 = .ok (.ireturn, 1) := by decide +kernel
def own_j1_0 (p1_0 : Int32) (p1_1 : Int32) : Int32 := if p1_0 < p1_1 then p1_1 else p1_0
theorem own_ef1 (m : MethodId) (p1_0 : Int32) (p1_1 : Int32) : entryFrame m #[(.int p1_0), (.int p1_1)] 2 = mkF m 0 #[.val (.int p1_0), .val (.int p1_1)] [] := by first | (simp [entryFrame, mkF, argsToLocals, Value.category]; done) | rfl
def own_Q1 (Z : State) (p1_0 : Int32) (p1_1 : Int32) (h0 : Heap) (n0 : Nat) (v : Option Value) (h : Heap) (L : List Loc) : Prop := v = some (.int (own_j1_0 p1_0 p1_1)) ∧ Fr n0 L ∧ h = h0
set_option maxRecDepth 65536 in
set_option maxHeartbeats 40000000 in
theorem own_rm1 (l : Launch) (Z : State) (a0 : Array Value) (hw : ∀ d ∈ tables_1, d.before a0 Z = true) (ws : List Jvm.Cond) (p1_0 : Int32) (p1_1 : Int32) (h0 : Heap) (n0 : Nat) (Z0 : n0 ≤ h0.size) :
    MetFree l (⟨"java/lang/Math", "max", "(II)I"⟩ : MethodName) (head1 (Jvm.Cond.code (⟨"java/lang/Math", "max", "(II)I"⟩ : MethodName) jdk_29_method_65_code 2 (some .int) :: ws) ({ frames := 0, cells := 0, slots := 0, locals := 0 } : Room)) (fun a U => a = #[(.int p1_0), (.int p1_1)] ∧ Z.Warmed39 U.vm ∧ U.heap = h0) (fun _ _ _ _ _ => True) (fun _ U o U' => ∃ v L, o = .returned v ∧ own_Q1 Z p1_0 p1_1 h0 n0 v U'.heap L ∧ FrameEnd U o U' L ({ frames := 0, cells := 0, slots := 0, locals := 0 } : Room).cells ({ frames := 0, cells := 0, slots := 0, locals := 0 } : Room).slots) := by
  refine MetFree.of_bodySF (Jvm.Free.JP.mathPlain rfl (by decide +kernel)) hisR ?_
  intro p e s m args below meth c s₁ Bd hml0 hP hK
  obtain ⟨rfl, hZ, hh⟩ := hP
  have hx := Bd.exec
  have hby := Bd.bytes
  have hml : c.maxLocals = 2 := hml0
  have hown : s.vm.findClass "java/lang/Math" = some m.cls := findClass_of_methodNamed Bd.named
  have hnm := (name_of_methodNamed Bd.named Bd.method).1
  have X0 : Stand p l e ({ frames := 0, cells := 0, slots := 0, locals := 0 } : Room) s m #[(.int p1_0), (.int p1_1)] below meth c s₁ [] 0 0 := Stand.of_body Bd
  have e0 : s₁.heap = h0 := by rw [← hh, Bd.state]; rfl
  have N0 := Fr.nil n0
  have Zr : h0.size ≤ h0.size := Nat.le_refl _
  have pre0 : ∀ t, Steps p.tables e below (s₁.setTop (mkF m 0 #[.val (.int p1_0), .val (.int p1_1)] [])) t → Steps p.tables e below (s₁.setTop (entryFrame m #[(.int p1_0), (.int p1_1)] 2)) t := fun t k => castTop (own_ef1 m p1_0 p1_1) k
  obtain ⟨Tj1_1, lj1_1, Xj1_1, Nj1_1, ej1_1, stj1_1⟩ : ∃ (T' : State) (l' : List Loc), Stand p l e ({ frames := 0, cells := 0, slots := 0, locals := 0 } : Room) s m #[(.int p1_0), (.int p1_1)] below meth c T' l' 0 0 ∧ Fr n0 l' ∧ T'.heap = h0 ∧ ∀ target, Steps p.tables e below (T'.setTop (mkF m 10 #[.val (.int p1_0), .val (.int p1_1)] [(.int (own_j1_0 p1_0 p1_1))])) target → Steps p.tables e below (s₁.setTop (mkF m 2 #[.val (.int p1_0), .val (.int p1_1)] [(.int p1_1), (.int p1_0)])) target := by
    by_cases hj1_1 : p1_0 < p1_1
    · refine ⟨_, _, X0, N0, e0, fun target kt => ?_⟩
      rw [(show (own_j1_0 p1_0 p1_1) = p1_1 from if_pos hj1_1)] at kt
      show Steps p.tables e below (s₁.setTop (mkF m 2 #[.val (.int p1_0), .val (.int p1_1)] [(.int p1_1), (.int p1_0)])) _
      refine XS.icmpYes X0.here hx rfl (pc0 := 2) (pc' := 9) rfl (hb hby own_d1_2) rfl (XT.ii_lt_t hj1_1) (by decide) (by decide) ?_
      show Steps p.tables e below (s₁.setTop (mkF m 9 #[.val (.int p1_0), .val (.int p1_1)] [])) _
      refine XS.iloadN X0.here hx rfl (hb hby own_d1_9) rfl ?_
      exact kt
    · refine ⟨_, _, X0, N0, e0, fun target kt => ?_⟩
      rw [(show (own_j1_0 p1_0 p1_1) = p1_0 from if_neg hj1_1)] at kt
      show Steps p.tables e below (s₁.setTop (mkF m 2 #[.val (.int p1_0), .val (.int p1_1)] [(.int p1_1), (.int p1_0)])) _
      refine XS.icmpNo X0.here hx rfl (hb hby own_d1_2) rfl (XT.ii_lt_f hj1_1) ?_
      show Steps p.tables e below (s₁.setTop (mkF m 5 #[.val (.int p1_0), .val (.int p1_1)] [])) _
      refine XS.iloadN X0.here hx rfl (hb hby own_d1_5) rfl ?_
      show Steps p.tables e below (s₁.setTop (mkF m 6 #[.val (.int p1_0), .val (.int p1_1)] [(.int p1_0)])) _
      refine XS.goto X0.here hx rfl (pc0 := 6) (pc' := 10) rfl (hb hby own_d1_6) (by decide) (by decide) ?_
      exact kt
  obtain ⟨fs, hr, hrun, hended, hW, hsame⟩ := Xj1_1.leave (v := some (.int (own_j1_0 p1_0 p1_1))) (fun h => by rw [Bd.returns] at h; cases h)
  refine ⟨_, _, pre0 _ (?_), hrun, hended, _, _, rfl, ?_, ⟨_, rfl⟩, hW, hsame.mono (by decide) (by decide)⟩
  · show Steps p.tables e below (s₁.setTop (mkF m 0 #[.val (.int p1_0), .val (.int p1_1)] [])) _
    refine XS.iloadN X0.here hx rfl (hb hby own_d1_0) rfl ?_
    show Steps p.tables e below (s₁.setTop (mkF m 1 #[.val (.int p1_0), .val (.int p1_1)] [(.int p1_0)])) _
    refine XS.iloadN X0.here hx rfl (hb hby own_d1_1) rfl ?_
    show Steps p.tables e below (s₁.setTop (mkF m 2 #[.val (.int p1_0), .val (.int p1_1)] [(.int p1_1), (.int p1_0)])) _
    refine stj1_1 _ ?_
    show Steps p.tables e below (Tj1_1.setTop (mkF m 10 #[.val (.int p1_0), .val (.int p1_1)] [(.int (own_j1_0 p1_0 p1_1))])) _
    exact retI Xj1_1 hx Bd.returns (hb hby own_d1_10) hr
  · show own_Q1 Z p1_0 p1_1 h0 n0 _ Tj1_1.heap _
    rw [ej1_1]
    exact ⟨rfl, Nj1_1, rfl⟩
theorem own_pn0 : plainName "com/example/dipper/dipper/Bm25" = true := by first | (simp [plainName, overriddenIn]; done) | decide +kernel
theorem own_pd0 : parseMethodDescriptor "(D)Z" = some ⟨[.double], some .boolean⟩ := by decide +kernel
theorem own_d2_0 : decode prog_3_method_1_code 0 = .ok (.aload_n 0, 1) := by decide +kernel
theorem own_d2_1 : decode prog_3_method_1_code 1 = .ok (.invokespecial 1, 3) := by decide +kernel
theorem own_d2_4 : decode prog_3_method_1_code 4 = .ok (.lload_n 1, 1) := by decide +kernel
theorem own_d2_5 : decode prog_3_method_1_code 5 = .ok (.lconst 1, 1) := by decide +kernel
theorem own_d2_6 : decode prog_3_method_1_code 6 = .ok (.lcmp, 1) := by decide +kernel
theorem own_d2_7 : decode prog_3_method_1_code 7 = .ok (.ifCond .ge 17, 3) := by decide +kernel
theorem own_d2_24 : decode prog_3_method_1_code 24 = .ok (.dload_n 3, 1) := by decide +kernel
theorem own_d2_25 : decode prog_3_method_1_code 25 = .ok (.dconst 0, 1) := by decide +kernel
theorem own_d2_26 : decode prog_3_method_1_code 26 = .ok (.dcmp .l, 1) := by decide +kernel
theorem own_d2_27 : decode prog_3_method_1_code 27 = .ok (.ifCond .lt 10, 3) := by decide +kernel
theorem own_d2_30 : decode prog_3_method_1_code 30 = .ok (.dload_n 3, 1) := by decide +kernel
theorem own_d2_31 : decode prog_3_method_1_code 31 = .ok (.invokestatic 16, 3) := by decide +kernel
theorem own_d2_34 : decode prog_3_method_1_code 34 = .ok (.ifCond .eq 17, 3) := by decide +kernel
theorem own_d2_51 : decode prog_3_method_1_code 51 = .ok (.aload_n 0, 1) := by decide +kernel
theorem own_d2_52 : decode prog_3_method_1_code 52 = .ok (.lload_n 1, 1) := by decide +kernel
theorem own_d2_53 : decode prog_3_method_1_code 53 = .ok (.putfield 25, 3) := by decide +kernel
theorem own_d2_56 : decode prog_3_method_1_code 56 = .ok (.aload_n 0, 1) := by decide +kernel
theorem own_d2_57 : decode prog_3_method_1_code 57 = .ok (.dload_n 3, 1) := by decide +kernel
theorem own_d2_58 : decode prog_3_method_1_code 58 = .ok (.putfield 31, 3) := by decide +kernel
theorem own_d2_61 : decode prog_3_method_1_code 61 = .ok (.return_, 1) := by decide +kernel
theorem own_ef2 (m : MethodId) (a2_0 : Addr) (q2_1 : Int64) (d2_2 : UInt64) : entryFrame m #[(.ref a2_0), (.long q2_1), (.double d2_2)] 5 = mkF m 0 #[.val (.ref a2_0), .val (.long q2_1), .second, .val (.double d2_2), .second] [] := by first | (simp [entryFrame, mkF, argsToLocals, Value.category]; done) | rfl
def own_Q2 (Z : State) (a2_0 : Addr) (q2_1 : Int64) (d2_2 : UInt64) (w_documentCount_a2_0 : Value) (w_averageLength_a2_0 : Value) (h0 : Heap) (n0 : Nat) (v : Option Value) (h : Heap) (L : List Loc) : Prop := v = none ∧ Fr n0 L ∧ Keep h0 h [a2_0] ∧ Exa Z h a2_0 "com/example/dipper/dipper/Bm25" ∧ Fld Z h a2_0 "com/example/dipper/dipper/Bm25" "documentCount" "J" (.long q2_1) ∧ Fld Z h a2_0 "com/example/dipper/dipper/Bm25" "averageLength" "D" (.double d2_2)
set_option maxRecDepth 65536 in
set_option maxHeartbeats 40000000 in
theorem own_rm2 (l : Launch) (Z : State) (a0 : Array Value) (hw : ∀ d ∈ tables_1, d.before a0 Z = true) (ws : List Jvm.Cond) (a2_0 : Addr) (q2_1 : Int64) (d2_2 : UInt64) (w_documentCount_a2_0 : Value) (w_averageLength_a2_0 : Value) (h0 : Heap) (n0 : Nat) (Z0 : n0 ≤ h0.size) (E_a2_0 : Exa Z h0 a2_0 "com/example/dipper/dipper/Bm25") (F_documentCount_a2_0 : Fld Z h0 a2_0 "com/example/dipper/dipper/Bm25" "documentCount" "J" w_documentCount_a2_0) (g_a2_0 : n0 ≤ a2_0) (F_averageLength_a2_0 : Fld Z h0 a2_0 "com/example/dipper/dipper/Bm25" "averageLength" "D" w_averageLength_a2_0) (hc7 : ¬ (q2_1 < (1 : Int64))) (hc27 : ¬ ((cmpValue (FP.dcmp d2_2 (0 : UInt64)) .l) < (0 : Int32))) (fin31 : Fin64 d2_2) :
    MetFree l (⟨"com/example/dipper/dipper/Bm25", "<init>", "(JD)V"⟩ : MethodName) (head1 (Jvm.Cond.code (⟨"com/example/dipper/dipper/Bm25", "<init>", "(JD)V"⟩ : MethodName) prog_3_method_1_code 5 none :: ws) ({ frames := 2, cells := 0, slots := 0, locals := 26 } : Room)) (fun a U => a = #[(.ref a2_0), (.long q2_1), (.double d2_2)] ∧ Z.Warmed39 U.vm ∧ U.heap = h0) (fun _ _ _ _ _ => True) (fun _ U o U' => ∃ v L, o = .returned v ∧ own_Q2 Z a2_0 q2_1 d2_2 w_documentCount_a2_0 w_averageLength_a2_0 h0 n0 v U'.heap L ∧ FrameEnd U o U' L ({ frames := 2, cells := 0, slots := 0, locals := 26 } : Room).cells ({ frames := 2, cells := 0, slots := 0, locals := 26 } : Room).slots) := by
  refine MetFree.of_bodySF (plainFor_of_name own_pn0) hisR ?_
  intro p e s m args below meth c s₁ Bd hml0 hP hK
  obtain ⟨rfl, hZ, hh⟩ := hP
  have hx := Bd.exec
  have hby := Bd.bytes
  have hml : c.maxLocals = 5 := hml0
  have hown : s.vm.findClass "com/example/dipper/dipper/Bm25" = some m.cls := findClass_of_methodNamed Bd.named
  have hnm := (name_of_methodNamed Bd.named Bd.method).1
  have X0 : Stand p l e ({ frames := 2, cells := 0, slots := 0, locals := 26 } : Room) s m #[(.ref a2_0), (.long q2_1), (.double d2_2)] below meth c s₁ [] 0 0 := Stand.of_body Bd
  have e0 : s₁.heap = h0 := by rw [← hh, Bd.state]; rfl
  have N0 := Fr.nil n0
  have Zr : h0.size ≤ h0.size := Nat.le_refl _
  have pre0 : ∀ t, Steps p.tables e below (s₁.setTop (mkF m 0 #[.val (.ref a2_0), .val (.long q2_1), .second, .val (.double d2_2), .second] [])) t → Steps p.tables e below (s₁.setTop (entryFrame m #[(.ref a2_0), (.long q2_1), (.double d2_2)] 5)) t := fun t k => castTop (own_ef2 m a2_0 q2_1 d2_2) k
  obtain ⟨Tn2_1, Xn2_1, en2_1, stn2_1⟩ := initO X0 hx hZ hown (hw _ (List.mem_of_getElem? (i := 12) rfl)) (hw _ (List.mem_of_getElem? (i := 13) rfl)) (hw _ (List.mem_of_getElem? (i := 14) rfl)) e0 (g := (mkF m 1 #[.val (.ref a2_0), .val (.long q2_1), .second, .val (.double d2_2), .second] [(.ref a2_0)])) rfl (by rw [hml]; rfl) rfl (hb hby own_d2_1) (by decide) (W := 0) (by show 2 * 0 + _ ≤ _; exact Nat.le_of_eq rfl) (by decide)
  obtain ⟨rk2_2, _, ⟨Tk2_2, Lk2_2, kk2_2, nk2_2⟩, -, Xk2_2, ⟨⟨hhk2_2, hLk2_2, hck2_2, hnk2_2⟩, hvk2_2⟩, stk2_2⟩ := Jvm.LawKit.callS Xn2_1 hx (y := (⟨"java/lang/Double", "isInfinite", "(D)Z"⟩ : MethodName)) hown (mvT hZ (hw _ (List.mem_of_getElem? (i := 15) rfl))) (mvT hZ (hw _ (List.mem_of_getElem? (i := 16) rfl))) (mvT hZ (hw _ (List.mem_of_getElem? (i := 17) rfl))) (mvT hZ (hw _ (List.mem_of_getElem? (i := 18) rfl))) (by decide) (Jvm.Free.Fl.IsInfinite.pays (W := 0) (by decide) (by decide) (by show (Cond.and _ (Cond.and _ (Cond.and _ (Cond.and _ (Cond.and _ _))))).before _ _ = true; simp only [Cond.before_and, Bool.and_eq_true]; exact ⟨mvT hZ (hw _ (List.mem_of_getElem? (i := 18) rfl)), mvT hZ (hw _ (List.mem_of_getElem? (i := 19) rfl)), mvT hZ (hw _ (List.mem_of_getElem? (i := 20) rfl)), mvT hZ (hw _ (List.mem_of_getElem? (i := 3) rfl)), mvT hZ (hw _ (List.mem_of_getElem? (i := 21) rfl)), mvT hZ (hw _ (List.mem_of_getElem? (i := 22) rfl))⟩) (mvT hZ (hw _ (List.mem_of_getElem? (i := 17) rfl)))) (g := (mkF m 31 #[.val (.ref a2_0), .val (.long q2_1), .second, .val (.double d2_2), .second] [(.double d2_2)])) rfl (by rw [hml]; rfl) (argsL := [(.double d2_2)]) (rest := []) (lenOf own_pd0 rfl) rfl (by show 2 * 0 + _ ≤ _; exact Nat.le_of_eq rfl) (hb hby own_d2_31) (fun _ _ => ⟨(by decide : 0 ≤ _), (by decide : 0 ≤ _), d2_2, rfl, fin31.noNaN⟩)
  have vvk2_2 := hvk2_2 d2_2 ⟨rfl, fin31.noNaN⟩
  rw [if_neg (fun h => (Jvm.Free.Fl.gt_max_iff fin31.noNaN).mp h fin31)] at vvk2_2
  subst vvk2_2
  dsimp only [Pt.U, Pt.locs, Pt.cells, Pt.slots] at Xk2_2 hhk2_2 hLk2_2 hck2_2 hnk2_2 stk2_2
  subst hLk2_2 hck2_2 hnk2_2
  have ek2_2 : Tk2_2.heap = h0 := hhk2_2.trans en2_1
  obtain ⟨Tn2_3, hn2_3, Xn2_3, en2_3, Wn2_3, stn2_3⟩ := putF Xk2_2 hx hZ hown (host := "") (Or.inl (hw _ (List.mem_of_getElem? (i := 23) rfl))) Via.refl ek2_2 F_documentCount_a2_0 E_a2_0 (Or.inr ⟨(hw _ (List.mem_of_getElem? (i := 24) rfl)), rfl, hnm⟩) (hw _ (List.mem_of_getElem? (i := 7) rfl)) (ty := .long) (by decide) rfl rfl (g := (mkF m 53 #[.val (.ref a2_0), .val (.long q2_1), .second, .val (.double d2_2), .second] [(.long q2_1), (.ref a2_0)])) rfl rfl (hb hby own_d2_53)
  have Fwn2_3 : Fld Z hn2_3 a2_0 "com/example/dipper/dipper/Bm25" "documentCount" "J" (.long q2_1) := F_documentCount_a2_0.same Wn2_3
  have sz2_4 : h0.size ≤ hn2_3.size := Nat.le_trans Zr (Nat.le_of_eq Wn2_3.size.symm)
  have Nn2_3 := Fr.snoc Xn2_3 N0 g_a2_0
  have F2_5 := (E_a2_0.wr Wn2_3)
  have F2_6 := (F_averageLength_a2_0.other Wn2_3 (Or.inr (slot_ne (Or.inr (hw _ (List.mem_of_getElem? (i := 26) rfl))) (Or.inr (hw _ (List.mem_of_getElem? (i := 24) rfl))) (by decide) (t := .double) (t' := .long) (by decide) (by decide))))
  obtain ⟨Tn2_7, hn2_7, Xn2_7, en2_7, Wn2_7, stn2_7⟩ := putF Xn2_3 hx hZ hown (host := "") (Or.inl (hw _ (List.mem_of_getElem? (i := 25) rfl))) Via.refl en2_3 F2_6 F2_5 (Or.inr ⟨(hw _ (List.mem_of_getElem? (i := 26) rfl)), rfl, hnm⟩) (hw _ (List.mem_of_getElem? (i := 7) rfl)) (ty := .double) (by decide) rfl rfl (g := (mkF m 58 #[.val (.ref a2_0), .val (.long q2_1), .second, .val (.double d2_2), .second] [(.double d2_2), (.ref a2_0)])) rfl rfl (hb hby own_d2_58)
  have Fwn2_7 : Fld Z hn2_7 a2_0 "com/example/dipper/dipper/Bm25" "averageLength" "D" (.double d2_2) := F2_6.same Wn2_7
  have sz2_8 : h0.size ≤ hn2_7.size := Nat.le_trans sz2_4 (Nat.le_of_eq Wn2_7.size.symm)
  have Nn2_7 := Fr.snoc Xn2_7 Nn2_3 g_a2_0
  obtain ⟨fs, hr, hrun, hended, hW, hsame⟩ := Xn2_7.leave (v := none) (fun _ => rfl)
  refine ⟨_, _, pre0 _ (?_), hrun, hended, _, _, rfl, ?_, ⟨_, rfl⟩, hW, hsame.mono (by decide) (by decide)⟩
  · show Steps p.tables e below (s₁.setTop (mkF m 0 #[.val (.ref a2_0), .val (.long q2_1), .second, .val (.double d2_2), .second] [])) _
    refine XS.aloadN X0.here hx rfl (hb hby own_d2_0) rfl rfl ?_
    show Steps p.tables e below (s₁.setTop (mkF m 1 #[.val (.ref a2_0), .val (.long q2_1), .second, .val (.double d2_2), .second] [(.ref a2_0)])) _
    refine stn2_1 _ ?_
    show Steps p.tables e below (Tn2_1.setTop (mkF m 4 #[.val (.ref a2_0), .val (.long q2_1), .second, .val (.double d2_2), .second] [])) _
    refine XT.lloadN Xn2_1.here hx rfl (hb hby own_d2_4) rfl ?_
    show Steps p.tables e below (Tn2_1.setTop (mkF m 5 #[.val (.ref a2_0), .val (.long q2_1), .second, .val (.double d2_2), .second] [(.long q2_1)])) _
    refine XT.lconst Xn2_1.here hx rfl (hb hby own_d2_5) ?_
    show Steps p.tables e below (Tn2_1.setTop (mkF m 6 #[.val (.ref a2_0), .val (.long q2_1), .second, .val (.double d2_2), .second] [(.long (1 : Int64)), (.long q2_1)])) _
    refine XT.lcmp Xn2_1.here hx rfl (hb hby own_d2_6) rfl ?_
    show Steps p.tables e below (Tn2_1.setTop (mkF m 7 #[.val (.ref a2_0), .val (.long q2_1), .second, .val (.double d2_2), .second] [(.int (XT.cmpL q2_1 (1 : Int64)))])) _
    refine XS.ifYes Xn2_1.here hx rfl (pc0 := 7) (pc' := 24) rfl (hb hby own_d2_7) rfl (XT.ll_ge_t hc7) (by decide) (by decide) ?_
    show Steps p.tables e below (Tn2_1.setTop (mkF m 24 #[.val (.ref a2_0), .val (.long q2_1), .second, .val (.double d2_2), .second] [])) _
    refine XS.dloadN Xn2_1.here hx rfl (hb hby own_d2_24) rfl ?_
    show Steps p.tables e below (Tn2_1.setTop (mkF m 25 #[.val (.ref a2_0), .val (.long q2_1), .second, .val (.double d2_2), .second] [(.double d2_2)])) _
    refine XS.dconst0 Xn2_1.here hx rfl (hb hby own_d2_25) (v := (0 : UInt64)) (by decide +kernel) ?_
    show Steps p.tables e below (Tn2_1.setTop (mkF m 26 #[.val (.ref a2_0), .val (.long q2_1), .second, .val (.double d2_2), .second] [(.double (0 : UInt64)), (.double d2_2)])) _
    refine XS.dcmpS Xn2_1.here hx rfl (hb hby own_d2_26) rfl rfl ?_
    show Steps p.tables e below (Tn2_1.setTop (mkF m 27 #[.val (.ref a2_0), .val (.long q2_1), .second, .val (.double d2_2), .second] [(.int (cmpValue (FP.dcmp d2_2 (0 : UInt64)) .l))])) _
    refine XS.ifNo Xn2_1.here hx rfl (hb hby own_d2_27) rfl (XT.i0_lt_f hc27) ?_
    show Steps p.tables e below (Tn2_1.setTop (mkF m 30 #[.val (.ref a2_0), .val (.long q2_1), .second, .val (.double d2_2), .second] [])) _
    refine XS.dloadN Xn2_1.here hx rfl (hb hby own_d2_30) rfl ?_
    show Steps p.tables e below (Tn2_1.setTop (mkF m 31 #[.val (.ref a2_0), .val (.long q2_1), .second, .val (.double d2_2), .second] [(.double d2_2)])) _
    refine stk2_2 _ ?_
    show Steps p.tables e below (Tk2_2.setTop (mkF m 34 #[.val (.ref a2_0), .val (.long q2_1), .second, .val (.double d2_2), .second] [(.int (0 : Int32))])) _
    refine XS.ifYes Xk2_2.here hx rfl (pc0 := 34) (pc' := 51) rfl (hb hby own_d2_34) rfl (XT.i0_eq_t (by decide : (0 : Int32) = (0 : Int32))) (by decide) (by decide) ?_
    show Steps p.tables e below (Tk2_2.setTop (mkF m 51 #[.val (.ref a2_0), .val (.long q2_1), .second, .val (.double d2_2), .second] [])) _
    refine XS.aloadN Xk2_2.here hx rfl (hb hby own_d2_51) rfl rfl ?_
    show Steps p.tables e below (Tk2_2.setTop (mkF m 52 #[.val (.ref a2_0), .val (.long q2_1), .second, .val (.double d2_2), .second] [(.ref a2_0)])) _
    refine XT.lloadN Xk2_2.here hx rfl (hb hby own_d2_52) rfl ?_
    show Steps p.tables e below (Tk2_2.setTop (mkF m 53 #[.val (.ref a2_0), .val (.long q2_1), .second, .val (.double d2_2), .second] [(.long q2_1), (.ref a2_0)])) _
    refine stn2_3 _ ?_
    show Steps p.tables e below (Tn2_3.setTop (mkF m 56 #[.val (.ref a2_0), .val (.long q2_1), .second, .val (.double d2_2), .second] [])) _
    refine XS.aloadN Xn2_3.here hx rfl (hb hby own_d2_56) rfl rfl ?_
    show Steps p.tables e below (Tn2_3.setTop (mkF m 57 #[.val (.ref a2_0), .val (.long q2_1), .second, .val (.double d2_2), .second] [(.ref a2_0)])) _
    refine XS.dloadN Xn2_3.here hx rfl (hb hby own_d2_57) rfl ?_
    show Steps p.tables e below (Tn2_3.setTop (mkF m 58 #[.val (.ref a2_0), .val (.long q2_1), .second, .val (.double d2_2), .second] [(.double d2_2), (.ref a2_0)])) _
    refine stn2_7 _ ?_
    show Steps p.tables e below (Tn2_7.setTop (mkF m 61 #[.val (.ref a2_0), .val (.long q2_1), .second, .val (.double d2_2), .second] [])) _
    exact Xn2_7.returnOut hx Bd.returns (hb hby own_d2_61) hr
  · show own_Q2 Z a2_0 q2_1 d2_2 w_documentCount_a2_0 w_averageLength_a2_0 h0 n0 _ Tn2_7.heap _
    rw [en2_7]
    exact ⟨rfl, Nn2_7, (((Keep.refl h0 [a2_0]).wr Wn2_3 (Or.inl (List.mem_of_getElem? (i := 0) rfl))).wr Wn2_7 (Or.inl (List.mem_of_getElem? (i := 0) rfl))), (F2_5.wr Wn2_7), (Fwn2_3.other Wn2_7 (Or.inr (slot_ne (Or.inr (hw _ (List.mem_of_getElem? (i := 24) rfl))) (Or.inr (hw _ (List.mem_of_getElem? (i := 26) rfl))) (by decide) (t := .long) (t' := .double) (by decide) (by decide)))), Fwn2_7⟩
theorem own_d7_0 : decode prog_3_method_5_code 0 = .ok (.ldc2_w 64, 3) := by decide +kernel
theorem own_d7_3 : decode prog_3_method_5_code 3 = .ok (.ldc2_w 66, 3) := by decide +kernel
theorem own_d7_6 : decode prog_3_method_5_code 6 = .ok (.ldc2_w 68, 3) := by decide +kernel
theorem own_d7_9 : decode prog_3_method_5_code 9 = .ok (.iload_n 1, 1) := by decide +kernel
theorem own_d7_10 : decode prog_3_method_5_code 10 = .ok (.i2d, 1) := by decide +kernel
theorem own_d7_11 : decode prog_3_method_5_code 11 = .ok (.dmul, 1) := by decide +kernel
theorem own_d7_12 : decode prog_3_method_5_code 12 = .ok (.aload_n 0, 1) := by decide +kernel
theorem own_d7_13 : decode prog_3_method_5_code 13 = .ok (.getfield 31, 3) := by decide +kernel
theorem own_d7_16 : decode prog_3_method_5_code 16 = .ok (.ddiv, 1) := by decide +kernel
theorem own_d7_17 : decode prog_3_method_5_code 17 = .ok (.dadd, 1) := by decide +kernel
theorem own_d7_18 : decode prog_3_method_5_code 18 = .ok (.dmul, 1) := by decide +kernel
theorem own_d7_19 : decode prog_3_method_5_code 19 = .ok (.dreturn, 1) := by decide +kernel
def own_r7_0 (p7_1 : Int32) (w_averageLength_a7_0 : UInt64) : UInt64 := (FP.dmul (4608083138725491507 : UInt64) (FP.dadd (4598175219545276416 : UInt64) (FP.ddiv (FP.dmul (4604930618986332160 : UInt64) (FP.i2d p7_1)) w_averageLength_a7_0)))
theorem own_ef7 (m : MethodId) (a7_0 : Addr) (p7_1 : Int32) : entryFrame m #[(.ref a7_0), (.int p7_1)] 2 = mkF m 0 #[.val (.ref a7_0), .val (.int p7_1)] [] := by first | (simp [entryFrame, mkF, argsToLocals, Value.category]; done) | rfl
def own_Q7 (Z : State) (a7_0 : Addr) (p7_1 : Int32) (w_averageLength_a7_0 : UInt64) (h0 : Heap) (n0 : Nat) (v : Option Value) (h : Heap) (L : List Loc) : Prop := v = some (.double (own_r7_0 p7_1 w_averageLength_a7_0)) ∧ Fr n0 L ∧ h = h0
set_option maxRecDepth 65536 in
set_option maxHeartbeats 40000000 in
theorem own_rm7 (l : Launch) (Z : State) (a0 : Array Value) (hw : ∀ d ∈ tables_1, d.before a0 Z = true) (ws : List Jvm.Cond) (a7_0 : Addr) (p7_1 : Int32) (w_averageLength_a7_0 : UInt64) (h0 : Heap) (n0 : Nat) (Z0 : n0 ≤ h0.size) (F_averageLength_a7_0 : Fld Z h0 a7_0 "com/example/dipper/dipper/Bm25" "averageLength" "D" (.double w_averageLength_a7_0)) (nn11 : NoNaN64 (FP.dmul (4604930618986332160 : UInt64) (FP.i2d p7_1))) (nn16 : NoNaN64 (FP.ddiv (FP.dmul (4604930618986332160 : UInt64) (FP.i2d p7_1)) w_averageLength_a7_0)) (nn17 : NoNaN64 (FP.dadd (4598175219545276416 : UInt64) (FP.ddiv (FP.dmul (4604930618986332160 : UInt64) (FP.i2d p7_1)) w_averageLength_a7_0))) (nn18 : NoNaN64 (FP.dmul (4608083138725491507 : UInt64) (FP.dadd (4598175219545276416 : UInt64) (FP.ddiv (FP.dmul (4604930618986332160 : UInt64) (FP.i2d p7_1)) w_averageLength_a7_0)))) :
    MetFree l (⟨"com/example/dipper/dipper/Bm25", "lengthNorm", "(I)D"⟩ : MethodName) (head1 (Jvm.Cond.code (⟨"com/example/dipper/dipper/Bm25", "lengthNorm", "(I)D"⟩ : MethodName) prog_3_method_5_code 2 (some .double) :: ws) ({ frames := 0, cells := 0, slots := 0, locals := 0 } : Room)) (fun a U => a = #[(.ref a7_0), (.int p7_1)] ∧ Z.Warmed39 U.vm ∧ U.heap = h0) (fun _ _ _ _ _ => True) (fun _ U o U' => ∃ v L, o = .returned v ∧ own_Q7 Z a7_0 p7_1 w_averageLength_a7_0 h0 n0 v U'.heap L ∧ FrameEnd U o U' L ({ frames := 0, cells := 0, slots := 0, locals := 0 } : Room).cells ({ frames := 0, cells := 0, slots := 0, locals := 0 } : Room).slots) := by
  refine MetFree.of_bodySF (plainFor_of_name own_pn0) hisR ?_
  intro p e s m args below meth c s₁ Bd hml0 hP hK
  obtain ⟨rfl, hZ, hh⟩ := hP
  have hx := Bd.exec
  have hby := Bd.bytes
  have hml : c.maxLocals = 2 := hml0
  have hown : s.vm.findClass "com/example/dipper/dipper/Bm25" = some m.cls := findClass_of_methodNamed Bd.named
  have hnm := (name_of_methodNamed Bd.named Bd.method).1
  have X0 : Stand p l e ({ frames := 0, cells := 0, slots := 0, locals := 0 } : Room) s m #[(.ref a7_0), (.int p7_1)] below meth c s₁ [] 0 0 := Stand.of_body Bd
  have e0 : s₁.heap = h0 := by rw [← hh, Bd.state]; rfl
  have N0 := Fr.nil n0
  have Zr : h0.size ≤ h0.size := Nat.le_refl _
  have pre0 : ∀ t, Steps p.tables e below (s₁.setTop (mkF m 0 #[.val (.ref a7_0), .val (.int p7_1)] [])) t → Steps p.tables e below (s₁.setTop (entryFrame m #[(.ref a7_0), (.int p7_1)] 2)) t := fun t k => castTop (own_ef7 m a7_0 p7_1) k
  obtain ⟨Tn7_1, Xn7_1, en7_1, stn7_1⟩ := getF X0 hx hZ hown (host := "") (Or.inl (hw _ (List.mem_of_getElem? (i := 25) rfl))) Via.refl e0 F_averageLength_a7_0 (g := (mkF m 13 #[.val (.ref a7_0), .val (.int p7_1)] [(.ref a7_0), (.double (FP.dmul (4604930618986332160 : UInt64) (FP.i2d p7_1))), (.double (4598175219545276416 : UInt64)), (.double (4608083138725491507 : UInt64))])) rfl rfl (hb hby own_d7_13)
  obtain ⟨fs, hr, hrun, hended, hW, hsame⟩ := Xn7_1.leave (v := some (.double (FP.dmul (4608083138725491507 : UInt64) (FP.dadd (4598175219545276416 : UInt64) (FP.ddiv (FP.dmul (4604930618986332160 : UInt64) (FP.i2d p7_1)) w_averageLength_a7_0))))) (fun h => by rw [Bd.returns] at h; cases h)
  refine ⟨_, _, pre0 _ (?_), hrun, hended, _, _, rfl, ?_, ⟨_, rfl⟩, hW, hsame.mono (by decide) (by decide)⟩
  · show Steps p.tables e below (s₁.setTop (mkF m 0 #[.val (.ref a7_0), .val (.int p7_1)] [])) _
    refine X0.ldc2DoubleC hx hown (mvT hZ (hw _ (List.mem_of_getElem? (i := 37) rfl))) (g := (mkF m 0 #[.val (.ref a7_0), .val (.int p7_1)] [])) rfl (hb hby own_d7_0) _ ?_
    show Steps p.tables e below (s₁.setTop (mkF m 3 #[.val (.ref a7_0), .val (.int p7_1)] [(.double (4608083138725491507 : UInt64))])) _
    refine X0.ldc2DoubleC hx hown (mvT hZ (hw _ (List.mem_of_getElem? (i := 38) rfl))) (g := (mkF m 3 #[.val (.ref a7_0), .val (.int p7_1)] [(.double (4608083138725491507 : UInt64))])) rfl (hb hby own_d7_3) _ ?_
    show Steps p.tables e below (s₁.setTop (mkF m 6 #[.val (.ref a7_0), .val (.int p7_1)] [(.double (4598175219545276416 : UInt64)), (.double (4608083138725491507 : UInt64))])) _
    refine X0.ldc2DoubleC hx hown (mvT hZ (hw _ (List.mem_of_getElem? (i := 39) rfl))) (g := (mkF m 6 #[.val (.ref a7_0), .val (.int p7_1)] [(.double (4598175219545276416 : UInt64)), (.double (4608083138725491507 : UInt64))])) rfl (hb hby own_d7_6) _ ?_
    show Steps p.tables e below (s₁.setTop (mkF m 9 #[.val (.ref a7_0), .val (.int p7_1)] [(.double (4604930618986332160 : UInt64)), (.double (4598175219545276416 : UInt64)), (.double (4608083138725491507 : UInt64))])) _
    refine XS.iloadN X0.here hx rfl (hb hby own_d7_9) rfl ?_
    show Steps p.tables e below (s₁.setTop (mkF m 10 #[.val (.ref a7_0), .val (.int p7_1)] [(.int p7_1), (.double (4604930618986332160 : UInt64)), (.double (4598175219545276416 : UInt64)), (.double (4608083138725491507 : UInt64))])) _
    refine XS.i2dS X0.here hx rfl (hb hby own_d7_10) rfl rfl ?_
    show Steps p.tables e below (s₁.setTop (mkF m 11 #[.val (.ref a7_0), .val (.int p7_1)] [(.double (FP.i2d p7_1)), (.double (4604930618986332160 : UInt64)), (.double (4598175219545276416 : UInt64)), (.double (4608083138725491507 : UInt64))])) _
    refine XS.dmulS X0.here hx rfl (hb hby own_d7_11) rfl nn11 rfl ?_
    show Steps p.tables e below (s₁.setTop (mkF m 12 #[.val (.ref a7_0), .val (.int p7_1)] [(.double (FP.dmul (4604930618986332160 : UInt64) (FP.i2d p7_1))), (.double (4598175219545276416 : UInt64)), (.double (4608083138725491507 : UInt64))])) _
    refine XS.aloadN X0.here hx rfl (hb hby own_d7_12) rfl rfl ?_
    show Steps p.tables e below (s₁.setTop (mkF m 13 #[.val (.ref a7_0), .val (.int p7_1)] [(.ref a7_0), (.double (FP.dmul (4604930618986332160 : UInt64) (FP.i2d p7_1))), (.double (4598175219545276416 : UInt64)), (.double (4608083138725491507 : UInt64))])) _
    refine stn7_1 _ ?_
    show Steps p.tables e below (Tn7_1.setTop (mkF m 16 #[.val (.ref a7_0), .val (.int p7_1)] [(.double w_averageLength_a7_0), (.double (FP.dmul (4604930618986332160 : UInt64) (FP.i2d p7_1))), (.double (4598175219545276416 : UInt64)), (.double (4608083138725491507 : UInt64))])) _
    refine XS.ddivS Xn7_1.here hx rfl (hb hby own_d7_16) rfl nn16 rfl ?_
    show Steps p.tables e below (Tn7_1.setTop (mkF m 17 #[.val (.ref a7_0), .val (.int p7_1)] [(.double (FP.ddiv (FP.dmul (4604930618986332160 : UInt64) (FP.i2d p7_1)) w_averageLength_a7_0)), (.double (4598175219545276416 : UInt64)), (.double (4608083138725491507 : UInt64))])) _
    refine XS.daddS Xn7_1.here hx rfl (hb hby own_d7_17) rfl nn17 rfl ?_
    show Steps p.tables e below (Tn7_1.setTop (mkF m 18 #[.val (.ref a7_0), .val (.int p7_1)] [(.double (FP.dadd (4598175219545276416 : UInt64) (FP.ddiv (FP.dmul (4604930618986332160 : UInt64) (FP.i2d p7_1)) w_averageLength_a7_0))), (.double (4608083138725491507 : UInt64))])) _
    refine XS.dmulS Xn7_1.here hx rfl (hb hby own_d7_18) rfl nn18 rfl ?_
    show Steps p.tables e below (Tn7_1.setTop (mkF m 19 #[.val (.ref a7_0), .val (.int p7_1)] [(.double (FP.dmul (4608083138725491507 : UInt64) (FP.dadd (4598175219545276416 : UInt64) (FP.ddiv (FP.dmul (4604930618986332160 : UInt64) (FP.i2d p7_1)) w_averageLength_a7_0))))])) _
    exact own_retD Xn7_1 hx Bd.returns (hb hby own_d7_19) hr
  · show own_Q7 Z a7_0 p7_1 w_averageLength_a7_0 h0 n0 _ Tn7_1.heap _
    rw [en7_1]
    exact ⟨rfl, N0, rfl⟩
theorem own_d8_0 : decode prog_3_method_6_code 0 = .ok (.ldc2_w 70, 3) := by decide +kernel
theorem own_d8_3 : decode prog_3_method_6_code 3 = .ok (.iload_n 0, 1) := by decide +kernel
theorem own_d8_4 : decode prog_3_method_6_code 4 = .ok (.i2d, 1) := by decide +kernel
theorem own_d8_5 : decode prog_3_method_6_code 5 = .ok (.dmul, 1) := by decide +kernel
theorem own_d8_6 : decode prog_3_method_6_code 6 = .ok (.dload_n 1, 1) := by decide +kernel
theorem own_d8_7 : decode prog_3_method_6_code 7 = .ok (.iload_n 0, 1) := by decide +kernel
theorem own_d8_8 : decode prog_3_method_6_code 8 = .ok (.i2d, 1) := by decide +kernel
theorem own_d8_9 : decode prog_3_method_6_code 9 = .ok (.dadd, 1) := by decide +kernel
theorem own_d8_10 : decode prog_3_method_6_code 10 = .ok (.ddiv, 1) := by decide +kernel
theorem own_d8_11 : decode prog_3_method_6_code 11 = .ok (.dreturn, 1) := by decide +kernel
def own_r8_0 (p8_0 : Int32) (d8_1 : UInt64) : UInt64 := (FP.ddiv (FP.dmul (4612136378390124954 : UInt64) (FP.i2d p8_0)) (FP.dadd d8_1 (FP.i2d p8_0)))
theorem own_ef8 (m : MethodId) (p8_0 : Int32) (d8_1 : UInt64) : entryFrame m #[(.int p8_0), (.double d8_1)] 3 = mkF m 0 #[.val (.int p8_0), .val (.double d8_1), .second] [] := by first | (simp [entryFrame, mkF, argsToLocals, Value.category]; done) | rfl
def own_Q8 (Z : State) (p8_0 : Int32) (d8_1 : UInt64) (h0 : Heap) (n0 : Nat) (v : Option Value) (h : Heap) (L : List Loc) : Prop := v = some (.double (own_r8_0 p8_0 d8_1)) ∧ Fr n0 L ∧ h = h0
set_option maxRecDepth 65536 in
set_option maxHeartbeats 40000000 in
theorem own_rm8 (l : Launch) (Z : State) (a0 : Array Value) (hw : ∀ d ∈ tables_1, d.before a0 Z = true) (ws : List Jvm.Cond) (p8_0 : Int32) (d8_1 : UInt64) (h0 : Heap) (n0 : Nat) (Z0 : n0 ≤ h0.size) (nn5 : NoNaN64 (FP.dmul (4612136378390124954 : UInt64) (FP.i2d p8_0))) (nn9 : NoNaN64 (FP.dadd d8_1 (FP.i2d p8_0))) (nn10 : NoNaN64 (FP.ddiv (FP.dmul (4612136378390124954 : UInt64) (FP.i2d p8_0)) (FP.dadd d8_1 (FP.i2d p8_0)))) :
    MetFree l (⟨"com/example/dipper/dipper/Bm25", "frequencyFactor", "(ID)D"⟩ : MethodName) (head1 (Jvm.Cond.code (⟨"com/example/dipper/dipper/Bm25", "frequencyFactor", "(ID)D"⟩ : MethodName) prog_3_method_6_code 3 (some .double) :: ws) ({ frames := 0, cells := 0, slots := 0, locals := 0 } : Room)) (fun a U => a = #[(.int p8_0), (.double d8_1)] ∧ Z.Warmed39 U.vm ∧ U.heap = h0) (fun _ _ _ _ _ => True) (fun _ U o U' => ∃ v L, o = .returned v ∧ own_Q8 Z p8_0 d8_1 h0 n0 v U'.heap L ∧ FrameEnd U o U' L ({ frames := 0, cells := 0, slots := 0, locals := 0 } : Room).cells ({ frames := 0, cells := 0, slots := 0, locals := 0 } : Room).slots) := by
  refine MetFree.of_bodySF (plainFor_of_name own_pn0) hisR ?_
  intro p e s m args below meth c s₁ Bd hml0 hP hK
  obtain ⟨rfl, hZ, hh⟩ := hP
  have hx := Bd.exec
  have hby := Bd.bytes
  have hml : c.maxLocals = 3 := hml0
  have hown : s.vm.findClass "com/example/dipper/dipper/Bm25" = some m.cls := findClass_of_methodNamed Bd.named
  have hnm := (name_of_methodNamed Bd.named Bd.method).1
  have X0 : Stand p l e ({ frames := 0, cells := 0, slots := 0, locals := 0 } : Room) s m #[(.int p8_0), (.double d8_1)] below meth c s₁ [] 0 0 := Stand.of_body Bd
  have e0 : s₁.heap = h0 := by rw [← hh, Bd.state]; rfl
  have N0 := Fr.nil n0
  have Zr : h0.size ≤ h0.size := Nat.le_refl _
  have pre0 : ∀ t, Steps p.tables e below (s₁.setTop (mkF m 0 #[.val (.int p8_0), .val (.double d8_1), .second] [])) t → Steps p.tables e below (s₁.setTop (entryFrame m #[(.int p8_0), (.double d8_1)] 3)) t := fun t k => castTop (own_ef8 m p8_0 d8_1) k
  obtain ⟨fs, hr, hrun, hended, hW, hsame⟩ := X0.leave (v := some (.double (FP.ddiv (FP.dmul (4612136378390124954 : UInt64) (FP.i2d p8_0)) (FP.dadd d8_1 (FP.i2d p8_0))))) (fun h => by rw [Bd.returns] at h; cases h)
  refine ⟨_, _, pre0 _ (?_), hrun, hended, _, _, rfl, ?_, ⟨_, rfl⟩, hW, hsame.mono (by decide) (by decide)⟩
  · show Steps p.tables e below (s₁.setTop (mkF m 0 #[.val (.int p8_0), .val (.double d8_1), .second] [])) _
    refine X0.ldc2DoubleC hx hown (mvT hZ (hw _ (List.mem_of_getElem? (i := 43) rfl))) (g := (mkF m 0 #[.val (.int p8_0), .val (.double d8_1), .second] [])) rfl (hb hby own_d8_0) _ ?_
    show Steps p.tables e below (s₁.setTop (mkF m 3 #[.val (.int p8_0), .val (.double d8_1), .second] [(.double (4612136378390124954 : UInt64))])) _
    refine XS.iloadN X0.here hx rfl (hb hby own_d8_3) rfl ?_
    show Steps p.tables e below (s₁.setTop (mkF m 4 #[.val (.int p8_0), .val (.double d8_1), .second] [(.int p8_0), (.double (4612136378390124954 : UInt64))])) _
    refine XS.i2dS X0.here hx rfl (hb hby own_d8_4) rfl rfl ?_
    show Steps p.tables e below (s₁.setTop (mkF m 5 #[.val (.int p8_0), .val (.double d8_1), .second] [(.double (FP.i2d p8_0)), (.double (4612136378390124954 : UInt64))])) _
    refine XS.dmulS X0.here hx rfl (hb hby own_d8_5) rfl nn5 rfl ?_
    show Steps p.tables e below (s₁.setTop (mkF m 6 #[.val (.int p8_0), .val (.double d8_1), .second] [(.double (FP.dmul (4612136378390124954 : UInt64) (FP.i2d p8_0)))])) _
    refine XS.dloadN X0.here hx rfl (hb hby own_d8_6) rfl ?_
    show Steps p.tables e below (s₁.setTop (mkF m 7 #[.val (.int p8_0), .val (.double d8_1), .second] [(.double d8_1), (.double (FP.dmul (4612136378390124954 : UInt64) (FP.i2d p8_0)))])) _
    refine XS.iloadN X0.here hx rfl (hb hby own_d8_7) rfl ?_
    show Steps p.tables e below (s₁.setTop (mkF m 8 #[.val (.int p8_0), .val (.double d8_1), .second] [(.int p8_0), (.double d8_1), (.double (FP.dmul (4612136378390124954 : UInt64) (FP.i2d p8_0)))])) _
    refine XS.i2dS X0.here hx rfl (hb hby own_d8_8) rfl rfl ?_
    show Steps p.tables e below (s₁.setTop (mkF m 9 #[.val (.int p8_0), .val (.double d8_1), .second] [(.double (FP.i2d p8_0)), (.double d8_1), (.double (FP.dmul (4612136378390124954 : UInt64) (FP.i2d p8_0)))])) _
    refine XS.daddS X0.here hx rfl (hb hby own_d8_9) rfl nn9 rfl ?_
    show Steps p.tables e below (s₁.setTop (mkF m 10 #[.val (.int p8_0), .val (.double d8_1), .second] [(.double (FP.dadd d8_1 (FP.i2d p8_0))), (.double (FP.dmul (4612136378390124954 : UInt64) (FP.i2d p8_0)))])) _
    refine XS.ddivS X0.here hx rfl (hb hby own_d8_10) rfl nn10 rfl ?_
    show Steps p.tables e below (s₁.setTop (mkF m 11 #[.val (.int p8_0), .val (.double d8_1), .second] [(.double (FP.ddiv (FP.dmul (4612136378390124954 : UInt64) (FP.i2d p8_0)) (FP.dadd d8_1 (FP.i2d p8_0))))])) _
    exact own_retD X0 hx Bd.returns (hb hby own_d8_11) hr
  · show own_Q8 Z p8_0 d8_1 h0 n0 _ s₁.heap _
    rw [e0]
    exact ⟨rfl, N0, rfl⟩
theorem own_pd1 : parseMethodDescriptor "(I)D" = some ⟨[.int], some .double⟩ := by decide +kernel
theorem own_pd2 : parseMethodDescriptor "(ID)D" = some ⟨[.int, .double], some .double⟩ := by decide +kernel
theorem own_d6_0 : decode prog_3_method_4_code 0 = .ok (.iload_n 1, 1) := by decide +kernel
theorem own_d6_1 : decode prog_3_method_4_code 1 = .ok (.iconst 1, 1) := by decide +kernel
theorem own_d6_2 : decode prog_3_method_4_code 2 = .ok (.if_icmp .lt 8, 3) := by decide +kernel
theorem own_d6_5 : decode prog_3_method_4_code 5 = .ok (.iload_n 1, 1) := by decide +kernel
theorem own_d6_6 : decode prog_3_method_4_code 6 = .ok (.iload_n 2, 1) := by decide +kernel
theorem own_d6_7 : decode prog_3_method_4_code 7 = .ok (.if_icmp .le 18, 3) := by decide +kernel
theorem own_d6_25 : decode prog_3_method_4_code 25 = .ok (.iload_n 1, 1) := by decide +kernel
theorem own_d6_26 : decode prog_3_method_4_code 26 = .ok (.aload_n 0, 1) := by decide +kernel
theorem own_d6_27 : decode prog_3_method_4_code 27 = .ok (.iload_n 2, 1) := by decide +kernel
theorem own_d6_28 : decode prog_3_method_4_code 28 = .ok (.invokevirtual 56, 3) := by decide +kernel
theorem own_d6_31 : decode prog_3_method_4_code 31 = .ok (.invokestatic 60, 3) := by decide +kernel
theorem own_d6_34 : decode prog_3_method_4_code 34 = .ok (.dreturn, 1) := by decide +kernel
def own_r6_0 (p6_1 : Int32) (p6_2 : Int32) (w_averageLength_a6_0 : UInt64) : UInt64 := (own_r8_0 p6_1 (own_r7_0 p6_2 w_averageLength_a6_0))
theorem own_ef6 (m : MethodId) (a6_0 : Addr) (p6_1 : Int32) (p6_2 : Int32) : entryFrame m #[(.ref a6_0), (.int p6_1), (.int p6_2)] 3 = mkF m 0 #[.val (.ref a6_0), .val (.int p6_1), .val (.int p6_2)] [] := by first | (simp [entryFrame, mkF, argsToLocals, Value.category]; done) | rfl
def own_Q6 (Z : State) (a6_0 : Addr) (p6_1 : Int32) (p6_2 : Int32) (w_averageLength_a6_0 : UInt64) (h0 : Heap) (n0 : Nat) (v : Option Value) (h : Heap) (L : List Loc) : Prop := v = some (.double (own_r6_0 p6_1 p6_2 w_averageLength_a6_0)) ∧ Fr n0 L ∧ h = h0
set_option maxRecDepth 65536 in
set_option maxHeartbeats 40000000 in
theorem own_rm6 (l : Launch) (Z : State) (a0 : Array Value) (hw : ∀ d ∈ tables_1, d.before a0 Z = true) (ws : List Jvm.Cond) (a6_0 : Addr) (p6_1 : Int32) (p6_2 : Int32) (w_averageLength_a6_0 : UInt64) (h0 : Heap) (n0 : Nat) (Z0 : n0 ≤ h0.size) (F_averageLength_a6_0 : Fld Z h0 a6_0 "com/example/dipper/dipper/Bm25" "averageLength" "D" (.double w_averageLength_a6_0)) (E_a6_0 : Exa Z h0 a6_0 "com/example/dipper/dipper/Bm25") (hc2 : ¬ (p6_1 < (1 : Int32))) (hc7 : ¬ (p6_2 < p6_1)) (c28_nn11 : NoNaN64 (FP.dmul (4604930618986332160 : UInt64) (FP.i2d p6_2))) (c28_nn16 : NoNaN64 (FP.ddiv (FP.dmul (4604930618986332160 : UInt64) (FP.i2d p6_2)) w_averageLength_a6_0)) (c28_nn17 : NoNaN64 (FP.dadd (4598175219545276416 : UInt64) (FP.ddiv (FP.dmul (4604930618986332160 : UInt64) (FP.i2d p6_2)) w_averageLength_a6_0))) (c28_nn18 : NoNaN64 (FP.dmul (4608083138725491507 : UInt64) (FP.dadd (4598175219545276416 : UInt64) (FP.ddiv (FP.dmul (4604930618986332160 : UInt64) (FP.i2d p6_2)) w_averageLength_a6_0)))) (c31_nn5 : NoNaN64 (FP.dmul (4612136378390124954 : UInt64) (FP.i2d p6_1))) (c31_nn9 : NoNaN64 (FP.dadd (own_r7_0 p6_2 w_averageLength_a6_0) (FP.i2d p6_1))) (c31_nn10 : NoNaN64 (FP.ddiv (FP.dmul (4612136378390124954 : UInt64) (FP.i2d p6_1)) (FP.dadd (own_r7_0 p6_2 w_averageLength_a6_0) (FP.i2d p6_1)))) :
    MetFree l (⟨"com/example/dipper/dipper/Bm25", "frequencyFactor", "(II)D"⟩ : MethodName) (head1 (Jvm.Cond.code (⟨"com/example/dipper/dipper/Bm25", "frequencyFactor", "(II)D"⟩ : MethodName) prog_3_method_4_code 3 (some .double) :: ws) ({ frames := 1, cells := 0, slots := 0, locals := 14 } : Room)) (fun a U => a = #[(.ref a6_0), (.int p6_1), (.int p6_2)] ∧ Z.Warmed39 U.vm ∧ U.heap = h0) (fun _ _ _ _ _ => True) (fun _ U o U' => ∃ v L, o = .returned v ∧ own_Q6 Z a6_0 p6_1 p6_2 w_averageLength_a6_0 h0 n0 v U'.heap L ∧ FrameEnd U o U' L ({ frames := 1, cells := 0, slots := 0, locals := 14 } : Room).cells ({ frames := 1, cells := 0, slots := 0, locals := 14 } : Room).slots) := by
  refine MetFree.of_bodySF (plainFor_of_name own_pn0) hisR ?_
  intro p e s m args below meth c s₁ Bd hml0 hP hK
  obtain ⟨rfl, hZ, hh⟩ := hP
  have hx := Bd.exec
  have hby := Bd.bytes
  have hml : c.maxLocals = 3 := hml0
  have hown : s.vm.findClass "com/example/dipper/dipper/Bm25" = some m.cls := findClass_of_methodNamed Bd.named
  have hnm := (name_of_methodNamed Bd.named Bd.method).1
  have X0 : Stand p l e ({ frames := 1, cells := 0, slots := 0, locals := 14 } : Room) s m #[(.ref a6_0), (.int p6_1), (.int p6_2)] below meth c s₁ [] 0 0 := Stand.of_body Bd
  have e0 : s₁.heap = h0 := by rw [← hh, Bd.state]; rfl
  have N0 := Fr.nil n0
  have Zr : h0.size ≤ h0.size := Nat.le_refl _
  have pre0 : ∀ t, Steps p.tables e below (s₁.setTop (mkF m 0 #[.val (.ref a6_0), .val (.int p6_1), .val (.int p6_2)] [])) t → Steps p.tables e below (s₁.setTop (entryFrame m #[(.ref a6_0), (.int p6_1), (.int p6_2)] 3)) t := fun t k => castTop (own_ef6 m a6_0 p6_1 p6_2) k
  obtain ⟨cqk6_1, kqk6_1, qk6_1a, qk6_1b, qk6_1c⟩ := isOf hZ e0 E_a6_0
  obtain ⟨_, _, ⟨Tk6_1, Lk6_1, kk6_1, nk6_1⟩, -, Xk6_1, ⟨Lck6_1, hQk6_1, lk6_1, yk6_1, zk6_1⟩, stk6_1⟩ := X0.virtualBack hx (y := (⟨"com/example/dipper/dipper/Bm25", "lengthNorm", "(I)D"⟩ : MethodName)) (z := (⟨"com/example/dipper/dipper/Bm25", "lengthNorm", "(I)D"⟩ : MethodName)) hown (mvT hZ (hw _ (List.mem_of_getElem? (i := 32) rfl))) (mvT hZ (hw _ (List.mem_of_getElem? (i := 33) rfl))) (notFace_of_selects (args := #[]) (mvT hZ (hw _ (List.mem_of_getElem? (i := 35) rfl)))) (mvT hZ (hw _ (List.mem_of_getElem? (i := 35) rfl))) (mvT hZ (hw _ (List.mem_of_getElem? (i := 34) rfl))) (by decide) (backOf (W := 1) (own_rm7 l Z a0 hw [] a6_0 p6_2 w_averageLength_a6_0 h0 n0 Z0 F_averageLength_a6_0 c28_nn11 c28_nn16 c28_nn17 c28_nn18) hZ (hw _ (List.mem_of_getElem? (i := 36) rfl)) (hw _ (List.mem_of_getElem? (i := 8) rfl)) (by decide) (by decide)) qk6_1a qk6_1c (g := (mkF m 28 #[.val (.ref a6_0), .val (.int p6_1), .val (.int p6_2)] [(.int p6_2), (.ref a6_0), (.int p6_1)])) rfl (by rw [hml]; rfl) (Steps.refl _) (argsL := [(.int p6_2)]) (rest := [(.int p6_1)]) (lenOf own_pd1 rfl) rfl (by show 2 * 0 + _ ≤ _; exact Nat.le_of_eq rfl) (hb hby own_d6_28) (fun _ _ => ⟨rfl, e0, (by decide : 0 + 0 ≤ _), (by decide : 0 + 0 ≤ _)⟩)
  dsimp only [Pt.U, Pt.locs, Pt.cells, Pt.slots] at Xk6_1 lk6_1 yk6_1 zk6_1 stk6_1 hQk6_1
  subst lk6_1 yk6_1 zk6_1
  obtain ⟨rfl, Nk6_1q, ek6_1⟩ := hQk6_1
  have Nk6_1 := Fr.app N0 Nk6_1q
  obtain ⟨_, _, ⟨Tk6_2, Lk6_2, kk6_2, nk6_2⟩, -, Xk6_2, ⟨Lck6_2, hQk6_2, lk6_2, yk6_2, zk6_2⟩, stk6_2⟩ := Jvm.LawKit.callS Xk6_1 hx (y := (⟨"com/example/dipper/dipper/Bm25", "frequencyFactor", "(ID)D"⟩ : MethodName)) hown (mvT hZ (hw _ (List.mem_of_getElem? (i := 40) rfl))) (mvT hZ (hw _ (List.mem_of_getElem? (i := 41) rfl))) (mvT hZ (hw _ (List.mem_of_getElem? (i := 8) rfl))) (mvT hZ (hw _ (List.mem_of_getElem? (i := 42) rfl))) (by decide) (backOf (W := 0) (own_rm8 l Z a0 hw [] p6_1 (own_r7_0 p6_2 w_averageLength_a6_0) h0 n0 Z0 c31_nn5 c31_nn9 c31_nn10) hZ (hw _ (List.mem_of_getElem? (i := 42) rfl)) (hw _ (List.mem_of_getElem? (i := 8) rfl)) (by decide) (by decide)) (g := (mkF m 31 #[.val (.ref a6_0), .val (.int p6_1), .val (.int p6_2)] [(.double (own_r7_0 p6_2 w_averageLength_a6_0)), (.int p6_1)])) rfl (by rw [hml]; rfl) (argsL := [(.int p6_1), (.double (own_r7_0 p6_2 w_averageLength_a6_0))]) (rest := []) (lenOf own_pd2 rfl) rfl (by show 2 * 0 + _ ≤ _; exact Nat.le_of_eq rfl) (hb hby own_d6_31) (fun _ _ => ⟨rfl, ek6_1, (by decide : 0 + 0 ≤ _), (by decide : 0 + 0 ≤ _)⟩)
  dsimp only [Pt.U, Pt.locs, Pt.cells, Pt.slots] at Xk6_2 lk6_2 yk6_2 zk6_2 stk6_2 hQk6_2
  subst lk6_2 yk6_2 zk6_2
  obtain ⟨rfl, Nk6_2q, ek6_2⟩ := hQk6_2
  have Nk6_2 := Fr.app Nk6_1 Nk6_2q
  obtain ⟨fs, hr, hrun, hended, hW, hsame⟩ := Xk6_2.leave (v := some (.double (own_r8_0 p6_1 (own_r7_0 p6_2 w_averageLength_a6_0)))) (fun h => by rw [Bd.returns] at h; cases h)
  refine ⟨_, _, pre0 _ (?_), hrun, hended, _, _, rfl, ?_, ⟨_, rfl⟩, hW, hsame.mono (by decide) (by decide)⟩
  · show Steps p.tables e below (s₁.setTop (mkF m 0 #[.val (.ref a6_0), .val (.int p6_1), .val (.int p6_2)] [])) _
    refine XS.iloadN X0.here hx rfl (hb hby own_d6_0) rfl ?_
    show Steps p.tables e below (s₁.setTop (mkF m 1 #[.val (.ref a6_0), .val (.int p6_1), .val (.int p6_2)] [(.int p6_1)])) _
    refine XS.iconst X0.here hx rfl (hb hby own_d6_1) ?_
    show Steps p.tables e below (s₁.setTop (mkF m 2 #[.val (.ref a6_0), .val (.int p6_1), .val (.int p6_2)] [(.int (1 : Int32)), (.int p6_1)])) _
    refine XS.icmpNo X0.here hx rfl (hb hby own_d6_2) rfl (XT.ii_lt_f hc2) ?_
    show Steps p.tables e below (s₁.setTop (mkF m 5 #[.val (.ref a6_0), .val (.int p6_1), .val (.int p6_2)] [])) _
    refine XS.iloadN X0.here hx rfl (hb hby own_d6_5) rfl ?_
    show Steps p.tables e below (s₁.setTop (mkF m 6 #[.val (.ref a6_0), .val (.int p6_1), .val (.int p6_2)] [(.int p6_1)])) _
    refine XS.iloadN X0.here hx rfl (hb hby own_d6_6) rfl ?_
    show Steps p.tables e below (s₁.setTop (mkF m 7 #[.val (.ref a6_0), .val (.int p6_1), .val (.int p6_2)] [(.int p6_2), (.int p6_1)])) _
    refine XS.icmpYes X0.here hx rfl (pc0 := 7) (pc' := 25) rfl (hb hby own_d6_7) rfl (XT.ii_le_t hc7) (by decide) (by decide) ?_
    show Steps p.tables e below (s₁.setTop (mkF m 25 #[.val (.ref a6_0), .val (.int p6_1), .val (.int p6_2)] [])) _
    refine XS.iloadN X0.here hx rfl (hb hby own_d6_25) rfl ?_
    show Steps p.tables e below (s₁.setTop (mkF m 26 #[.val (.ref a6_0), .val (.int p6_1), .val (.int p6_2)] [(.int p6_1)])) _
    refine XS.aloadN X0.here hx rfl (hb hby own_d6_26) rfl rfl ?_
    show Steps p.tables e below (s₁.setTop (mkF m 27 #[.val (.ref a6_0), .val (.int p6_1), .val (.int p6_2)] [(.ref a6_0), (.int p6_1)])) _
    refine XS.iloadN X0.here hx rfl (hb hby own_d6_27) rfl ?_
    show Steps p.tables e below (s₁.setTop (mkF m 28 #[.val (.ref a6_0), .val (.int p6_1), .val (.int p6_2)] [(.int p6_2), (.ref a6_0), (.int p6_1)])) _
    refine stk6_1.trans ?_
    show Steps p.tables e below (Tk6_1.setTop (mkF m 31 #[.val (.ref a6_0), .val (.int p6_1), .val (.int p6_2)] [(.double (own_r7_0 p6_2 w_averageLength_a6_0)), (.int p6_1)])) _
    refine stk6_2 _ ?_
    show Steps p.tables e below (Tk6_2.setTop (mkF m 34 #[.val (.ref a6_0), .val (.int p6_1), .val (.int p6_2)] [(.double (own_r8_0 p6_1 (own_r7_0 p6_2 w_averageLength_a6_0)))])) _
    exact own_retD Xk6_2 hx Bd.returns (hb hby own_d6_34) hr
  · show own_Q6 Z a6_0 p6_1 p6_2 w_averageLength_a6_0 h0 n0 _ Tk6_2.heap _
    rw [ek6_2]
    exact ⟨rfl, Nk6_2, rfl⟩
theorem own_pn1 : plainName "com/example/dipper/dipper/Bm25FrequencyFactorPinLaw" = true := by first | (simp [plainName, overriddenIn]; done) | decide +kernel
theorem own_pd3 : parseMethodDescriptor "(II)I" = some ⟨[.int, .int], some .int⟩ := by decide +kernel
theorem own_pd4 : parseMethodDescriptor "(JD)V" = some ⟨[.long, .double], none⟩ := by decide +kernel
theorem own_pd5 : parseMethodDescriptor "(II)D" = some ⟨[.int, .int], some .double⟩ := by decide +kernel
def own_v0_0 (p0_0 : Int32) : Int32 := (own_j1_0 (1 : Int32) (p0_0 &&& (2147483647 : Int32)))
def own_v0_1 (p0_0 : Int32) (p0_1 : Int32) : Int32 := ((1 : Int32) + ((p0_1 &&& (2147483647 : Int32)) - ((p0_1 &&& (2147483647 : Int32)) / (own_v0_0 p0_0)) * (own_v0_0 p0_0)))
def own_v0_2 (p0_2 : Int32) : UInt64 := (FP.ddiv (FP.i2d ((1 : Int32) <<< ((p0_2 &&& (15 : Int32)) &&& 31))) (4643211215818981376 : UInt64))
def own_v0_3 (p0_0 : Int32) (p0_2 : Int32) : UInt64 := (FP.ddiv (FP.i2d (own_v0_0 p0_0)) (own_v0_2 p0_2))
def own_v0_4 (p0_0 : Int32) (p0_3 : Int32) : Int32 := ((own_v0_0 p0_0) + ((p0_3 &&& (2147483647 : Int32)) - ((p0_3 &&& (2147483647 : Int32)) / (((2147483647 : Int32) - (own_v0_0 p0_0)) + (1 : Int32))) * (((2147483647 : Int32) - (own_v0_0 p0_0)) + (1 : Int32))))
def own_v0_5 (p0_0 : Int32) (p0_1 : Int32) (p0_2 : Int32) : UInt64 := (own_r6_0 (own_v0_1 p0_0 p0_1) (own_v0_0 p0_0) (own_v0_3 p0_0 p0_2))
def own_v0_6 (p0_0 : Int32) (p0_1 : Int32) (p0_2 : Int32) (p0_3 : Int32) : UInt64 := (own_r6_0 (own_v0_1 p0_0 p0_1) (own_v0_4 p0_0 p0_3) (own_v0_3 p0_0 p0_2))
def own_v0_7 (p0_2 : Int32) : UInt64 := (FP.dmul (4608083138725491507 : UInt64) (FP.dadd (4598175219545276416 : UInt64) (FP.dmul (4604930618986332160 : UInt64) (own_v0_2 p0_2))))
def own_v0_8 (p0_0 : Int32) (p0_1 : Int32) (p0_2 : Int32) : UInt64 := (FP.ddiv (FP.dmul (4612136378390124954 : UInt64) (FP.i2d (own_v0_1 p0_0 p0_1))) (FP.dadd (own_v0_7 p0_2) (FP.i2d (own_v0_1 p0_0 p0_1))))
theorem own_ef0 (m : MethodId) (p0_0 : Int32) (p0_1 : Int32) (p0_2 : Int32) (p0_3 : Int32) : entryFrame m #[(.int p0_0), (.int p0_1), (.int p0_2), (.int p0_3)] maxLocals = mkF m 0 #[.val (.int p0_0), .val (.int p0_1), .val (.int p0_2), .val (.int p0_3), .unset, .unset, .unset, .unset, .unset, .unset, .unset, .unset, .unset, .unset, .unset, .unset, .unset, .unset, .unset, .unset, .unset] [] := by first | (simp [entryFrame, mkF, argsToLocals, Value.category, maxLocals]; done) | rfl
def own_Q0 (Z : State) (p0_0 : Int32) (p0_1 : Int32) (p0_2 : Int32) (p0_3 : Int32) (h0 : Heap) (n0 : Nat) (v : Option Value) (h : Heap) (L : List Loc) : Prop := v = some (.int (1 : Int32)) ∧ Fr n0 L
set_option maxRecDepth 65536 in
set_option maxHeartbeats 40000000 in
theorem own_rm0 (l : Launch) (Z : State) (a0 : Array Value) (hw : ∀ d ∈ tables_1, d.before a0 Z = true) (ws : List Jvm.Cond) (p0_0 : Int32) (p0_1 : Int32) (p0_2 : Int32) (p0_3 : Int32) (h0 : Heap) (n0 : Nat) (Z0 : n0 ≤ h0.size) (hz17 : (own_v0_0 p0_0) ≠ 0) (nn35 : NoNaN64 (FP.ddiv (FP.i2d ((1 : Int32) <<< ((p0_2 &&& (15 : Int32)) &&& 31))) (4643211215818981376 : UInt64))) (nn43 : NoNaN64 (FP.ddiv (FP.i2d (own_v0_0 p0_0)) (own_v0_2 p0_2))) (hz59 : (((2147483647 : Int32) - (own_v0_0 p0_0)) + (1 : Int32)) ≠ 0) (c70_hc7 : ¬ ((1 : Int64) < (1 : Int64))) (c70_hc27 : ¬ ((cmpValue (FP.dcmp (own_v0_3 p0_0 p0_2) (0 : UInt64)) .l) < (0 : Int32))) (c70_fin31 : Fin64 (own_v0_3 p0_0 p0_2)) (c81_hc2 : ¬ ((own_v0_1 p0_0 p0_1) < (1 : Int32))) (c81_hc7 : ¬ ((own_v0_0 p0_0) < (own_v0_1 p0_0 p0_1))) (c81_c28_nn11 : NoNaN64 (FP.dmul (4604930618986332160 : UInt64) (FP.i2d (own_v0_0 p0_0)))) (c81_c28_nn16 : NoNaN64 (FP.ddiv (FP.dmul (4604930618986332160 : UInt64) (FP.i2d (own_v0_0 p0_0))) (own_v0_3 p0_0 p0_2))) (c81_c28_nn17 : NoNaN64 (FP.dadd (4598175219545276416 : UInt64) (FP.ddiv (FP.dmul (4604930618986332160 : UInt64) (FP.i2d (own_v0_0 p0_0))) (own_v0_3 p0_0 p0_2)))) (c81_c28_nn18 : NoNaN64 (FP.dmul (4608083138725491507 : UInt64) (FP.dadd (4598175219545276416 : UInt64) (FP.ddiv (FP.dmul (4604930618986332160 : UInt64) (FP.i2d (own_v0_0 p0_0))) (own_v0_3 p0_0 p0_2))))) (c81_c31_nn5 : NoNaN64 (FP.dmul (4612136378390124954 : UInt64) (FP.i2d (own_v0_1 p0_0 p0_1)))) (c81_c31_nn9 : NoNaN64 (FP.dadd (own_r7_0 (own_v0_0 p0_0) (own_v0_3 p0_0 p0_2)) (FP.i2d (own_v0_1 p0_0 p0_1)))) (c81_c31_nn10 : NoNaN64 (FP.ddiv (FP.dmul (4612136378390124954 : UInt64) (FP.i2d (own_v0_1 p0_0 p0_1))) (FP.dadd (own_r7_0 (own_v0_0 p0_0) (own_v0_3 p0_0 p0_2)) (FP.i2d (own_v0_1 p0_0 p0_1))))) (c92_hc7 : ¬ ((own_v0_4 p0_0 p0_3) < (own_v0_1 p0_0 p0_1))) (c92_c28_nn11 : NoNaN64 (FP.dmul (4604930618986332160 : UInt64) (FP.i2d (own_v0_4 p0_0 p0_3)))) (c92_c28_nn16 : NoNaN64 (FP.ddiv (FP.dmul (4604930618986332160 : UInt64) (FP.i2d (own_v0_4 p0_0 p0_3))) (own_v0_3 p0_0 p0_2))) (c92_c28_nn17 : NoNaN64 (FP.dadd (4598175219545276416 : UInt64) (FP.ddiv (FP.dmul (4604930618986332160 : UInt64) (FP.i2d (own_v0_4 p0_0 p0_3))) (own_v0_3 p0_0 p0_2)))) (c92_c28_nn18 : NoNaN64 (FP.dmul (4608083138725491507 : UInt64) (FP.dadd (4598175219545276416 : UInt64) (FP.ddiv (FP.dmul (4604930618986332160 : UInt64) (FP.i2d (own_v0_4 p0_0 p0_3))) (own_v0_3 p0_0 p0_2))))) (c92_c31_nn9 : NoNaN64 (FP.dadd (own_r7_0 (own_v0_4 p0_0 p0_3) (own_v0_3 p0_0 p0_2)) (FP.i2d (own_v0_1 p0_0 p0_1)))) (c92_c31_nn10 : NoNaN64 (FP.ddiv (FP.dmul (4612136378390124954 : UInt64) (FP.i2d (own_v0_1 p0_0 p0_1))) (FP.dadd (own_r7_0 (own_v0_4 p0_0 p0_3) (own_v0_3 p0_0 p0_2)) (FP.i2d (own_v0_1 p0_0 p0_1))))) (nn108 : NoNaN64 (FP.dmul (4604930618986332160 : UInt64) (own_v0_2 p0_2))) (nn109 : NoNaN64 (FP.dadd (4598175219545276416 : UInt64) (FP.dmul (4604930618986332160 : UInt64) (own_v0_2 p0_2)))) (nn110 : NoNaN64 (FP.dmul (4608083138725491507 : UInt64) (FP.dadd (4598175219545276416 : UInt64) (FP.dmul (4604930618986332160 : UInt64) (own_v0_2 p0_2))))) (nn125 : NoNaN64 (FP.dadd (own_v0_7 p0_2) (FP.i2d (own_v0_1 p0_0 p0_1)))) (nn126 : NoNaN64 (FP.ddiv (FP.dmul (4612136378390124954 : UInt64) (FP.i2d (own_v0_1 p0_0 p0_1))) (FP.dadd (own_v0_7 p0_2) (FP.i2d (own_v0_1 p0_0 p0_1))))) (hc134 : (cmpValue (FP.dcmp (own_v0_5 p0_0 p0_1 p0_2) (own_v0_8 p0_0 p0_1 p0_2)) .l) = (0 : Int32)) (hc142 : ¬ ((0 : Int32) < (cmpValue (FP.dcmp (own_v0_6 p0_0 p0_1 p0_2 p0_3) (own_v0_5 p0_0 p0_1 p0_2)) .g))) (hc149 : (0 : Int32) < (cmpValue (FP.dcmp (own_v0_6 p0_0 p0_1 p0_2 p0_3) (0 : UInt64)) .l)) :
    MetFree l x (head1 (Jvm.Cond.code x code maxLocals ret :: ws) room_1) (fun a U => a = #[(.int p0_0), (.int p0_1), (.int p0_2), (.int p0_3)] ∧ Z.Warmed39 U.vm ∧ U.heap = h0) (fun _ _ _ _ _ => True) (fun _ U o U' => ∃ v L, o = .returned v ∧ own_Q0 Z p0_0 p0_1 p0_2 p0_3 h0 n0 v U'.heap L ∧ FrameEnd U o U' L room_1.cells room_1.slots) := by
  refine MetFree.of_bodySF (plainFor_of_name own_pn1) hisR ?_
  intro p e s m args below meth c s₁ Bd hml0 hP hK
  obtain ⟨rfl, hZ, hh⟩ := hP
  have hx := Bd.exec
  have hby := Bd.bytes
  have hml : c.maxLocals = 21 := hml0
  have hown : s.vm.findClass "com/example/dipper/dipper/Bm25FrequencyFactorPinLaw" = some m.cls := findClass_of_methodNamed Bd.named
  have hnm := (name_of_methodNamed Bd.named Bd.method).1
  have X0 : Stand p l e room_1 s m #[(.int p0_0), (.int p0_1), (.int p0_2), (.int p0_3)] below meth c s₁ [] 0 0 := Stand.of_body Bd
  have e0 : s₁.heap = h0 := by rw [← hh, Bd.state]; rfl
  have N0 := Fr.nil n0
  have Zr : h0.size ≤ h0.size := Nat.le_refl _
  have pre0 : ∀ t, Steps p.tables e below (s₁.setTop (mkF m 0 #[.val (.int p0_0), .val (.int p0_1), .val (.int p0_2), .val (.int p0_3), .unset, .unset, .unset, .unset, .unset, .unset, .unset, .unset, .unset, .unset, .unset, .unset, .unset, .unset, .unset, .unset, .unset] [])) t → Steps p.tables e below (s₁.setTop (entryFrame m #[(.int p0_0), (.int p0_1), (.int p0_2), (.int p0_3)] maxLocals)) t := fun t k => castTop (own_ef0 m p0_0 p0_1 p0_2 p0_3) k
  obtain ⟨_, _, ⟨Tk0_1, Lk0_1, kk0_1, nk0_1⟩, -, Xk0_1, ⟨Lck0_1, hQk0_1, lk0_1, yk0_1, zk0_1⟩, stk0_1⟩ := Jvm.LawKit.callS X0 hx (y := (⟨"java/lang/Math", "max", "(II)I"⟩ : MethodName)) hown (mvT hZ (hw _ (List.mem_of_getElem? (i := 1) rfl))) (mvT hZ (hw _ (List.mem_of_getElem? (i := 2) rfl))) (mvT hZ (hw _ (List.mem_of_getElem? (i := 3) rfl))) (mvT hZ (hw _ (List.mem_of_getElem? (i := 4) rfl))) (by decide) (backOf (W := 0) (own_rm1 l Z a0 hw [] (1 : Int32) (p0_0 &&& (2147483647 : Int32)) h0 n0 Z0) hZ (hw _ (List.mem_of_getElem? (i := 4) rfl)) (hw _ (List.mem_of_getElem? (i := 3) rfl)) (by decide) (by decide)) (g := (mkF m 5 #[.val (.int p0_0), .val (.int p0_1), .val (.int p0_2), .val (.int p0_3), .unset, .unset, .unset, .unset, .unset, .unset, .unset, .unset, .unset, .unset, .unset, .unset, .unset, .unset, .unset, .unset, .unset] [(.int (p0_0 &&& (2147483647 : Int32))), (.int (1 : Int32))])) rfl (by rw [hml]; rfl) (argsL := [(.int (1 : Int32)), (.int (p0_0 &&& (2147483647 : Int32)))]) (rest := []) (lenOf own_pd3 rfl) rfl (by show 2 * 0 + _ ≤ _; exact Nat.le_of_eq rfl) (hb hby at_5) (fun _ _ => ⟨rfl, e0, (by decide : 0 + 0 ≤ _), (by decide : 0 + 0 ≤ _)⟩)
  dsimp only [Pt.U, Pt.locs, Pt.cells, Pt.slots] at Xk0_1 lk0_1 yk0_1 zk0_1 stk0_1 hQk0_1
  subst lk0_1 yk0_1 zk0_1
  obtain ⟨rfl, Nk0_1q, ek0_1⟩ := hQk0_1
  have Nk0_1 := Fr.app N0 Nk0_1q
  obtain ⟨Tn0_2, hn0_2, Xn0_2, en0_2, En0_2, An0_2, Dn0_2, -, stn0_2⟩ := newO Xk0_1 hx hZ hown (hw _ (List.mem_of_getElem? (i := 6) rfl)) (hw _ (List.mem_of_getElem? (i := 7) rfl)) (hw _ (List.mem_of_getElem? (i := 8) rfl)) ek0_1 (g := (mkF m 63 #[.val (.int p0_0), .val (.int p0_1), .val (.int p0_2), .val (.int p0_3), .val (.int (own_v0_0 p0_0)), .val (.int (own_v0_1 p0_0 p0_1)), .val (.int (p0_2 &&& (15 : Int32))), .val (.double (own_v0_2 p0_2)), .second, .val (.double (own_v0_3 p0_0 p0_2)), .second, .val (.int (own_v0_4 p0_0 p0_3)), .unset, .unset, .unset, .unset, .unset, .unset, .unset, .unset, .unset] [])) rfl (hb hby at_63) (by decide) (by decide)
  obtain ⟨bn0_2, gn0_2⟩ : ∃ z, z = h0.size := ⟨_, rfl⟩
  rw [← gn0_2] at An0_2 Dn0_2 stn0_2
  have g_bn0_2 : n0 ≤ bn0_2 := Nat.le_trans Z0 (Nat.le_of_eq gn0_2.symm)
  have sz_bn0_2 : h0.size ≤ bn0_2 := Nat.le_trans Zr (Nat.le_of_eq gn0_2.symm)
  have sz0_3 : h0.size ≤ hn0_2.size := Nat.le_trans Zr En0_2.1
  have F_documentCount_bn0_2 : Fld Z hn0_2 bn0_2 "com/example/dipper/dipper/Bm25" "documentCount" "J" (.long (0 : Int64)) := Dn0_2 (Or.inr (hw _ (List.mem_of_getElem? (i := 24) rfl))) (ty := .long) (by decide)
  have F_averageLength_bn0_2 : Fld Z hn0_2 bn0_2 "com/example/dipper/dipper/Bm25" "averageLength" "D" (.double (0 : UInt64)) := Dn0_2 (Or.inr (hw _ (List.mem_of_getElem? (i := 26) rfl))) (ty := .double) (by decide)
  obtain ⟨_, _, ⟨Tk0_4, Lk0_4, kk0_4, nk0_4⟩, -, Xk0_4, ⟨Lck0_4, hQk0_4, lk0_4, yk0_4, zk0_4⟩, stk0_4⟩ := Xn0_2.specialBack hx (y := (⟨"com/example/dipper/dipper/Bm25", "<init>", "(JD)V"⟩ : MethodName)) rfl hown (mvT hZ (hw _ (List.mem_of_getElem? (i := 9) rfl))) (mvT hZ (hw _ (List.mem_of_getElem? (i := 10) rfl))) (mvT hZ (hw _ (List.mem_of_getElem? (i := 11) rfl))) (by decide) (backOf (W := 1) (own_rm2 l Z a0 hw [] bn0_2 (1 : Int64) (own_v0_3 p0_0 p0_2) (.long (0 : Int64)) (.double (0 : UInt64)) hn0_2 n0 (Nat.le_trans Z0 sz0_3) An0_2 F_documentCount_bn0_2 g_bn0_2 F_averageLength_bn0_2 c70_hc7 c70_hc27 c70_fin31) hZ (hw _ (List.mem_of_getElem? (i := 11) rfl)) (hw _ (List.mem_of_getElem? (i := 8) rfl)) (by decide) (by decide)) (g := (mkF m 70 #[.val (.int p0_0), .val (.int p0_1), .val (.int p0_2), .val (.int p0_3), .val (.int (own_v0_0 p0_0)), .val (.int (own_v0_1 p0_0 p0_1)), .val (.int (p0_2 &&& (15 : Int32))), .val (.double (own_v0_2 p0_2)), .second, .val (.double (own_v0_3 p0_0 p0_2)), .second, .val (.int (own_v0_4 p0_0 p0_3)), .unset, .unset, .unset, .unset, .unset, .unset, .unset, .unset, .unset] [(.double (own_v0_3 p0_0 p0_2)), (.long (1 : Int64)), (.ref bn0_2), (.ref bn0_2)])) rfl (by rw [hml]; rfl) (Steps.refl _) (a := bn0_2) (argsL := [(.long (1 : Int64)), (.double (own_v0_3 p0_0 p0_2))]) (rest := [(.ref bn0_2)]) (lenOf own_pd4 rfl) rfl (by show 2 * 0 + _ ≤ _; exact Nat.le_of_eq rfl) (hb hby at_70) (fun _ _ => ⟨rfl, en0_2, (by decide : 1 + 0 ≤ _), (by decide : 2 + 0 ≤ _)⟩)
  dsimp only [Pt.U, Pt.locs, Pt.cells, Pt.slots] at Xk0_4 lk0_4 yk0_4 zk0_4 stk0_4 hQk0_4
  subst lk0_4 yk0_4 zk0_4
  obtain ⟨rfl, Nk0_4q, Kk0_4, Qk0_4_0, Qk0_4_1, Qk0_4_2⟩ := hQk0_4
  have sz0_5 : h0.size ≤ Tk0_4.heap.size := Nat.le_trans sz0_3 Kk0_4.1
  have Nk0_4 := Fr.app Nk0_1 Nk0_4q
  obtain ⟨cqk0_6, kqk0_6, qk0_6a, qk0_6b, qk0_6c⟩ := isOf hZ rfl Qk0_4_0
  obtain ⟨_, _, ⟨Tk0_6, Lk0_6, kk0_6, nk0_6⟩, -, Xk0_6, ⟨Lck0_6, hQk0_6, lk0_6, yk0_6, zk0_6⟩, stk0_6⟩ := Xk0_4.virtualBack hx (y := (⟨"com/example/dipper/dipper/Bm25", "frequencyFactor", "(II)D"⟩ : MethodName)) (z := (⟨"com/example/dipper/dipper/Bm25", "frequencyFactor", "(II)D"⟩ : MethodName)) hown (mvT hZ (hw _ (List.mem_of_getElem? (i := 27) rfl))) (mvT hZ (hw _ (List.mem_of_getElem? (i := 28) rfl))) (notFace_of_selects (args := #[]) (mvT hZ (hw _ (List.mem_of_getElem? (i := 30) rfl)))) (mvT hZ (hw _ (List.mem_of_getElem? (i := 30) rfl))) (mvT hZ (hw _ (List.mem_of_getElem? (i := 29) rfl))) (by decide) (backOf (W := 0) (own_rm6 l Z a0 hw [] bn0_2 (own_v0_1 p0_0 p0_1) (own_v0_0 p0_0) (own_v0_3 p0_0 p0_2) Tk0_4.heap n0 (Nat.le_trans Z0 sz0_5) Qk0_4_2 Qk0_4_0 c81_hc2 c81_hc7 c81_c28_nn11 c81_c28_nn16 c81_c28_nn17 c81_c28_nn18 c81_c31_nn5 c81_c31_nn9 c81_c31_nn10) hZ (hw _ (List.mem_of_getElem? (i := 31) rfl)) (hw _ (List.mem_of_getElem? (i := 8) rfl)) (by decide) (by decide)) qk0_6a qk0_6c (g := (mkF m 81 #[.val (.int p0_0), .val (.int p0_1), .val (.int p0_2), .val (.int p0_3), .val (.int (own_v0_0 p0_0)), .val (.int (own_v0_1 p0_0 p0_1)), .val (.int (p0_2 &&& (15 : Int32))), .val (.double (own_v0_2 p0_2)), .second, .val (.double (own_v0_3 p0_0 p0_2)), .second, .val (.int (own_v0_4 p0_0 p0_3)), .val (.ref bn0_2), .unset, .unset, .unset, .unset, .unset, .unset, .unset, .unset] [(.int (own_v0_0 p0_0)), (.int (own_v0_1 p0_0 p0_1)), (.ref bn0_2)])) rfl (by rw [hml]; rfl) (Steps.refl _) (argsL := [(.int (own_v0_1 p0_0 p0_1)), (.int (own_v0_0 p0_0))]) (rest := []) (lenOf own_pd5 rfl) rfl (by show 2 * 0 + _ ≤ _; exact Nat.le_of_eq rfl) (hb hby at_81) (fun _ _ => ⟨rfl, rfl, (by decide : 1 + 0 ≤ _), (by decide : 2 + 0 ≤ _)⟩)
  dsimp only [Pt.U, Pt.locs, Pt.cells, Pt.slots] at Xk0_6 lk0_6 yk0_6 zk0_6 stk0_6 hQk0_6
  subst lk0_6 yk0_6 zk0_6
  obtain ⟨rfl, Nk0_6q, ek0_6⟩ := hQk0_6
  have Nk0_6 := Fr.app Nk0_4 Nk0_6q
  obtain ⟨cqk0_7, kqk0_7, qk0_7a, qk0_7b, qk0_7c⟩ := isOf hZ ek0_6 Qk0_4_0
  obtain ⟨_, _, ⟨Tk0_7, Lk0_7, kk0_7, nk0_7⟩, -, Xk0_7, ⟨Lck0_7, hQk0_7, lk0_7, yk0_7, zk0_7⟩, stk0_7⟩ := Xk0_6.virtualBack hx (y := (⟨"com/example/dipper/dipper/Bm25", "frequencyFactor", "(II)D"⟩ : MethodName)) (z := (⟨"com/example/dipper/dipper/Bm25", "frequencyFactor", "(II)D"⟩ : MethodName)) hown (mvT hZ (hw _ (List.mem_of_getElem? (i := 27) rfl))) (mvT hZ (hw _ (List.mem_of_getElem? (i := 28) rfl))) (notFace_of_selects (args := #[]) (mvT hZ (hw _ (List.mem_of_getElem? (i := 30) rfl)))) (mvT hZ (hw _ (List.mem_of_getElem? (i := 30) rfl))) (mvT hZ (hw _ (List.mem_of_getElem? (i := 29) rfl))) (by decide) (backOf (W := 0) (own_rm6 l Z a0 hw [] bn0_2 (own_v0_1 p0_0 p0_1) (own_v0_4 p0_0 p0_3) (own_v0_3 p0_0 p0_2) Tk0_4.heap n0 (Nat.le_trans Z0 sz0_5) Qk0_4_2 Qk0_4_0 c81_hc2 c92_hc7 c92_c28_nn11 c92_c28_nn16 c92_c28_nn17 c92_c28_nn18 c81_c31_nn5 c92_c31_nn9 c92_c31_nn10) hZ (hw _ (List.mem_of_getElem? (i := 31) rfl)) (hw _ (List.mem_of_getElem? (i := 8) rfl)) (by decide) (by decide)) qk0_7a qk0_7c (g := (mkF m 92 #[.val (.int p0_0), .val (.int p0_1), .val (.int p0_2), .val (.int p0_3), .val (.int (own_v0_0 p0_0)), .val (.int (own_v0_1 p0_0 p0_1)), .val (.int (p0_2 &&& (15 : Int32))), .val (.double (own_v0_2 p0_2)), .second, .val (.double (own_v0_3 p0_0 p0_2)), .second, .val (.int (own_v0_4 p0_0 p0_3)), .val (.ref bn0_2), .val (.double (own_v0_5 p0_0 p0_1 p0_2)), .second, .unset, .unset, .unset, .unset, .unset, .unset] [(.int (own_v0_4 p0_0 p0_3)), (.int (own_v0_1 p0_0 p0_1)), (.ref bn0_2)])) rfl (by rw [hml]; rfl) (Steps.refl _) (argsL := [(.int (own_v0_1 p0_0 p0_1)), (.int (own_v0_4 p0_0 p0_3))]) (rest := []) (lenOf own_pd5 rfl) rfl (by show 2 * 0 + _ ≤ _; exact Nat.le_of_eq rfl) (hb hby at_92) (fun _ _ => ⟨rfl, ek0_6, (by decide : 1 + 0 ≤ _), (by decide : 2 + 0 ≤ _)⟩)
  dsimp only [Pt.U, Pt.locs, Pt.cells, Pt.slots] at Xk0_7 lk0_7 yk0_7 zk0_7 stk0_7 hQk0_7
  subst lk0_7 yk0_7 zk0_7
  obtain ⟨rfl, Nk0_7q, ek0_7⟩ := hQk0_7
  have Nk0_7 := Fr.app Nk0_6 Nk0_7q
  obtain ⟨fs, hr, hrun, hended, hW, hsame⟩ := Xk0_7.leave (v := some (.int (1 : Int32))) (fun h => by rw [Bd.returns] at h; cases h)
  refine ⟨_, _, pre0 _ (?_), hrun, hended, _, _, rfl, ?_, ⟨_, rfl⟩, hW, hsame.mono (by decide) (by decide)⟩
  · show Steps p.tables e below (s₁.setTop (mkF m 0 #[.val (.int p0_0), .val (.int p0_1), .val (.int p0_2), .val (.int p0_3), .unset, .unset, .unset, .unset, .unset, .unset, .unset, .unset, .unset, .unset, .unset, .unset, .unset, .unset, .unset, .unset, .unset] [])) _
    refine XS.iconst X0.here hx rfl (hb hby at_0) ?_
    show Steps p.tables e below (s₁.setTop (mkF m 1 #[.val (.int p0_0), .val (.int p0_1), .val (.int p0_2), .val (.int p0_3), .unset, .unset, .unset, .unset, .unset, .unset, .unset, .unset, .unset, .unset, .unset, .unset, .unset, .unset, .unset, .unset, .unset] [(.int (1 : Int32))])) _
    refine XS.iloadN X0.here hx rfl (hb hby at_1) rfl ?_
    show Steps p.tables e below (s₁.setTop (mkF m 2 #[.val (.int p0_0), .val (.int p0_1), .val (.int p0_2), .val (.int p0_3), .unset, .unset, .unset, .unset, .unset, .unset, .unset, .unset, .unset, .unset, .unset, .unset, .unset, .unset, .unset, .unset, .unset] [(.int p0_0), (.int (1 : Int32))])) _
    refine X0.ldcInt hx hown (mvT hZ (hw _ (List.mem_of_getElem? (i := 0) rfl))) (g := (mkF m 2 #[.val (.int p0_0), .val (.int p0_1), .val (.int p0_2), .val (.int p0_3), .unset, .unset, .unset, .unset, .unset, .unset, .unset, .unset, .unset, .unset, .unset, .unset, .unset, .unset, .unset, .unset, .unset] [(.int p0_0), (.int (1 : Int32))])) rfl (hb hby at_2) _ ?_
    show Steps p.tables e below (s₁.setTop (mkF m 4 #[.val (.int p0_0), .val (.int p0_1), .val (.int p0_2), .val (.int p0_3), .unset, .unset, .unset, .unset, .unset, .unset, .unset, .unset, .unset, .unset, .unset, .unset, .unset, .unset, .unset, .unset, .unset] [(.int (2147483647 : Int32)), (.int p0_0), (.int (1 : Int32))])) _
    refine XS.iand X0.here hx rfl (hb hby at_4) rfl ?_
    show Steps p.tables e below (s₁.setTop (mkF m 5 #[.val (.int p0_0), .val (.int p0_1), .val (.int p0_2), .val (.int p0_3), .unset, .unset, .unset, .unset, .unset, .unset, .unset, .unset, .unset, .unset, .unset, .unset, .unset, .unset, .unset, .unset, .unset] [(.int (p0_0 &&& (2147483647 : Int32))), (.int (1 : Int32))])) _
    refine stk0_1 _ ?_
    show Steps p.tables e below (Tk0_1.setTop (mkF m 8 #[.val (.int p0_0), .val (.int p0_1), .val (.int p0_2), .val (.int p0_3), .unset, .unset, .unset, .unset, .unset, .unset, .unset, .unset, .unset, .unset, .unset, .unset, .unset, .unset, .unset, .unset, .unset] [(.int (own_j1_0 (1 : Int32) (p0_0 &&& (2147483647 : Int32))))])) _
    refine XS.istore Xk0_1.here hx rfl (hb hby at_8) rfl (l' := #[.val (.int p0_0), .val (.int p0_1), .val (.int p0_2), .val (.int p0_3), .val (.int (own_v0_0 p0_0)), .unset, .unset, .unset, .unset, .unset, .unset, .unset, .unset, .unset, .unset, .unset, .unset, .unset, .unset, .unset, .unset]) rfl ?_
    show Steps p.tables e below (Tk0_1.setTop (mkF m 10 #[.val (.int p0_0), .val (.int p0_1), .val (.int p0_2), .val (.int p0_3), .val (.int (own_v0_0 p0_0)), .unset, .unset, .unset, .unset, .unset, .unset, .unset, .unset, .unset, .unset, .unset, .unset, .unset, .unset, .unset, .unset] [])) _
    refine XS.iconst Xk0_1.here hx rfl (hb hby at_10) ?_
    show Steps p.tables e below (Tk0_1.setTop (mkF m 11 #[.val (.int p0_0), .val (.int p0_1), .val (.int p0_2), .val (.int p0_3), .val (.int (own_v0_0 p0_0)), .unset, .unset, .unset, .unset, .unset, .unset, .unset, .unset, .unset, .unset, .unset, .unset, .unset, .unset, .unset, .unset] [(.int (1 : Int32))])) _
    refine XS.iloadN Xk0_1.here hx rfl (hb hby at_11) rfl ?_
    show Steps p.tables e below (Tk0_1.setTop (mkF m 12 #[.val (.int p0_0), .val (.int p0_1), .val (.int p0_2), .val (.int p0_3), .val (.int (own_v0_0 p0_0)), .unset, .unset, .unset, .unset, .unset, .unset, .unset, .unset, .unset, .unset, .unset, .unset, .unset, .unset, .unset, .unset] [(.int p0_1), (.int (1 : Int32))])) _
    refine Xk0_1.ldcInt hx hown (mvT hZ (hw _ (List.mem_of_getElem? (i := 0) rfl))) (g := (mkF m 12 #[.val (.int p0_0), .val (.int p0_1), .val (.int p0_2), .val (.int p0_3), .val (.int (own_v0_0 p0_0)), .unset, .unset, .unset, .unset, .unset, .unset, .unset, .unset, .unset, .unset, .unset, .unset, .unset, .unset, .unset, .unset] [(.int p0_1), (.int (1 : Int32))])) rfl (hb hby at_12) _ ?_
    show Steps p.tables e below (Tk0_1.setTop (mkF m 14 #[.val (.int p0_0), .val (.int p0_1), .val (.int p0_2), .val (.int p0_3), .val (.int (own_v0_0 p0_0)), .unset, .unset, .unset, .unset, .unset, .unset, .unset, .unset, .unset, .unset, .unset, .unset, .unset, .unset, .unset, .unset] [(.int (2147483647 : Int32)), (.int p0_1), (.int (1 : Int32))])) _
    refine XS.iand Xk0_1.here hx rfl (hb hby at_14) rfl ?_
    show Steps p.tables e below (Tk0_1.setTop (mkF m 15 #[.val (.int p0_0), .val (.int p0_1), .val (.int p0_2), .val (.int p0_3), .val (.int (own_v0_0 p0_0)), .unset, .unset, .unset, .unset, .unset, .unset, .unset, .unset, .unset, .unset, .unset, .unset, .unset, .unset, .unset, .unset] [(.int (p0_1 &&& (2147483647 : Int32))), (.int (1 : Int32))])) _
    refine XS.iload Xk0_1.here hx rfl (hb hby at_15) rfl ?_
    show Steps p.tables e below (Tk0_1.setTop (mkF m 17 #[.val (.int p0_0), .val (.int p0_1), .val (.int p0_2), .val (.int p0_3), .val (.int (own_v0_0 p0_0)), .unset, .unset, .unset, .unset, .unset, .unset, .unset, .unset, .unset, .unset, .unset, .unset, .unset, .unset, .unset, .unset] [(.int (own_v0_0 p0_0)), (.int (p0_1 &&& (2147483647 : Int32))), (.int (1 : Int32))])) _
    refine XS.irem Xk0_1.here hx rfl (hb hby at_17) rfl hz17 ?_
    show Steps p.tables e below (Tk0_1.setTop (mkF m 18 #[.val (.int p0_0), .val (.int p0_1), .val (.int p0_2), .val (.int p0_3), .val (.int (own_v0_0 p0_0)), .unset, .unset, .unset, .unset, .unset, .unset, .unset, .unset, .unset, .unset, .unset, .unset, .unset, .unset, .unset, .unset] [(.int ((p0_1 &&& (2147483647 : Int32)) - ((p0_1 &&& (2147483647 : Int32)) / (own_v0_0 p0_0)) * (own_v0_0 p0_0))), (.int (1 : Int32))])) _
    refine XS.iadd Xk0_1.here hx rfl (hb hby at_18) rfl ?_
    show Steps p.tables e below (Tk0_1.setTop (mkF m 19 #[.val (.int p0_0), .val (.int p0_1), .val (.int p0_2), .val (.int p0_3), .val (.int (own_v0_0 p0_0)), .unset, .unset, .unset, .unset, .unset, .unset, .unset, .unset, .unset, .unset, .unset, .unset, .unset, .unset, .unset, .unset] [(.int ((1 : Int32) + ((p0_1 &&& (2147483647 : Int32)) - ((p0_1 &&& (2147483647 : Int32)) / (own_v0_0 p0_0)) * (own_v0_0 p0_0))))])) _
    refine XS.istore Xk0_1.here hx rfl (hb hby at_19) rfl (l' := #[.val (.int p0_0), .val (.int p0_1), .val (.int p0_2), .val (.int p0_3), .val (.int (own_v0_0 p0_0)), .val (.int (own_v0_1 p0_0 p0_1)), .unset, .unset, .unset, .unset, .unset, .unset, .unset, .unset, .unset, .unset, .unset, .unset, .unset, .unset, .unset]) rfl ?_
    show Steps p.tables e below (Tk0_1.setTop (mkF m 21 #[.val (.int p0_0), .val (.int p0_1), .val (.int p0_2), .val (.int p0_3), .val (.int (own_v0_0 p0_0)), .val (.int (own_v0_1 p0_0 p0_1)), .unset, .unset, .unset, .unset, .unset, .unset, .unset, .unset, .unset, .unset, .unset, .unset, .unset, .unset, .unset] [])) _
    refine XS.iloadN Xk0_1.here hx rfl (hb hby at_21) rfl ?_
    show Steps p.tables e below (Tk0_1.setTop (mkF m 22 #[.val (.int p0_0), .val (.int p0_1), .val (.int p0_2), .val (.int p0_3), .val (.int (own_v0_0 p0_0)), .val (.int (own_v0_1 p0_0 p0_1)), .unset, .unset, .unset, .unset, .unset, .unset, .unset, .unset, .unset, .unset, .unset, .unset, .unset, .unset, .unset] [(.int p0_2)])) _
    refine XS.bipush Xk0_1.here hx rfl (hb hby at_22) ?_
    show Steps p.tables e below (Tk0_1.setTop (mkF m 24 #[.val (.int p0_0), .val (.int p0_1), .val (.int p0_2), .val (.int p0_3), .val (.int (own_v0_0 p0_0)), .val (.int (own_v0_1 p0_0 p0_1)), .unset, .unset, .unset, .unset, .unset, .unset, .unset, .unset, .unset, .unset, .unset, .unset, .unset, .unset, .unset] [(.int (15 : Int32)), (.int p0_2)])) _
    refine XS.iand Xk0_1.here hx rfl (hb hby at_24) rfl ?_
    show Steps p.tables e below (Tk0_1.setTop (mkF m 25 #[.val (.int p0_0), .val (.int p0_1), .val (.int p0_2), .val (.int p0_3), .val (.int (own_v0_0 p0_0)), .val (.int (own_v0_1 p0_0 p0_1)), .unset, .unset, .unset, .unset, .unset, .unset, .unset, .unset, .unset, .unset, .unset, .unset, .unset, .unset, .unset] [(.int (p0_2 &&& (15 : Int32)))])) _
    refine XS.istore Xk0_1.here hx rfl (hb hby at_25) rfl (l' := #[.val (.int p0_0), .val (.int p0_1), .val (.int p0_2), .val (.int p0_3), .val (.int (own_v0_0 p0_0)), .val (.int (own_v0_1 p0_0 p0_1)), .val (.int (p0_2 &&& (15 : Int32))), .unset, .unset, .unset, .unset, .unset, .unset, .unset, .unset, .unset, .unset, .unset, .unset, .unset, .unset]) rfl ?_
    show Steps p.tables e below (Tk0_1.setTop (mkF m 27 #[.val (.int p0_0), .val (.int p0_1), .val (.int p0_2), .val (.int p0_3), .val (.int (own_v0_0 p0_0)), .val (.int (own_v0_1 p0_0 p0_1)), .val (.int (p0_2 &&& (15 : Int32))), .unset, .unset, .unset, .unset, .unset, .unset, .unset, .unset, .unset, .unset, .unset, .unset, .unset, .unset] [])) _
    refine XS.iconst Xk0_1.here hx rfl (hb hby at_27) ?_
    show Steps p.tables e below (Tk0_1.setTop (mkF m 28 #[.val (.int p0_0), .val (.int p0_1), .val (.int p0_2), .val (.int p0_3), .val (.int (own_v0_0 p0_0)), .val (.int (own_v0_1 p0_0 p0_1)), .val (.int (p0_2 &&& (15 : Int32))), .unset, .unset, .unset, .unset, .unset, .unset, .unset, .unset, .unset, .unset, .unset, .unset, .unset, .unset] [(.int (1 : Int32))])) _
    refine XS.iload Xk0_1.here hx rfl (hb hby at_28) rfl ?_
    show Steps p.tables e below (Tk0_1.setTop (mkF m 30 #[.val (.int p0_0), .val (.int p0_1), .val (.int p0_2), .val (.int p0_3), .val (.int (own_v0_0 p0_0)), .val (.int (own_v0_1 p0_0 p0_1)), .val (.int (p0_2 &&& (15 : Int32))), .unset, .unset, .unset, .unset, .unset, .unset, .unset, .unset, .unset, .unset, .unset, .unset, .unset, .unset] [(.int (p0_2 &&& (15 : Int32))), (.int (1 : Int32))])) _
    refine XT.ishl Xk0_1.here hx rfl (hb hby at_30) rfl ?_
    show Steps p.tables e below (Tk0_1.setTop (mkF m 31 #[.val (.int p0_0), .val (.int p0_1), .val (.int p0_2), .val (.int p0_3), .val (.int (own_v0_0 p0_0)), .val (.int (own_v0_1 p0_0 p0_1)), .val (.int (p0_2 &&& (15 : Int32))), .unset, .unset, .unset, .unset, .unset, .unset, .unset, .unset, .unset, .unset, .unset, .unset, .unset, .unset] [(.int ((1 : Int32) <<< ((p0_2 &&& (15 : Int32)) &&& 31)))])) _
    refine XS.i2dS Xk0_1.here hx rfl (hb hby at_31) rfl rfl ?_
    show Steps p.tables e below (Tk0_1.setTop (mkF m 32 #[.val (.int p0_0), .val (.int p0_1), .val (.int p0_2), .val (.int p0_3), .val (.int (own_v0_0 p0_0)), .val (.int (own_v0_1 p0_0 p0_1)), .val (.int (p0_2 &&& (15 : Int32))), .unset, .unset, .unset, .unset, .unset, .unset, .unset, .unset, .unset, .unset, .unset, .unset, .unset, .unset] [(.double (FP.i2d ((1 : Int32) <<< ((p0_2 &&& (15 : Int32)) &&& 31))))])) _
    refine Xk0_1.ldc2DoubleC hx hown (mvT hZ (hw _ (List.mem_of_getElem? (i := 5) rfl))) (g := (mkF m 32 #[.val (.int p0_0), .val (.int p0_1), .val (.int p0_2), .val (.int p0_3), .val (.int (own_v0_0 p0_0)), .val (.int (own_v0_1 p0_0 p0_1)), .val (.int (p0_2 &&& (15 : Int32))), .unset, .unset, .unset, .unset, .unset, .unset, .unset, .unset, .unset, .unset, .unset, .unset, .unset, .unset] [(.double (FP.i2d ((1 : Int32) <<< ((p0_2 &&& (15 : Int32)) &&& 31))))])) rfl (hb hby at_32) _ ?_
    show Steps p.tables e below (Tk0_1.setTop (mkF m 35 #[.val (.int p0_0), .val (.int p0_1), .val (.int p0_2), .val (.int p0_3), .val (.int (own_v0_0 p0_0)), .val (.int (own_v0_1 p0_0 p0_1)), .val (.int (p0_2 &&& (15 : Int32))), .unset, .unset, .unset, .unset, .unset, .unset, .unset, .unset, .unset, .unset, .unset, .unset, .unset, .unset] [(.double (4643211215818981376 : UInt64)), (.double (FP.i2d ((1 : Int32) <<< ((p0_2 &&& (15 : Int32)) &&& 31))))])) _
    refine XS.ddivS Xk0_1.here hx rfl (hb hby at_35) rfl nn35 rfl ?_
    show Steps p.tables e below (Tk0_1.setTop (mkF m 36 #[.val (.int p0_0), .val (.int p0_1), .val (.int p0_2), .val (.int p0_3), .val (.int (own_v0_0 p0_0)), .val (.int (own_v0_1 p0_0 p0_1)), .val (.int (p0_2 &&& (15 : Int32))), .unset, .unset, .unset, .unset, .unset, .unset, .unset, .unset, .unset, .unset, .unset, .unset, .unset, .unset] [(.double (FP.ddiv (FP.i2d ((1 : Int32) <<< ((p0_2 &&& (15 : Int32)) &&& 31))) (4643211215818981376 : UInt64)))])) _
    refine XS.dstore Xk0_1.here hx rfl (hb hby at_36) rfl (l' := #[.val (.int p0_0), .val (.int p0_1), .val (.int p0_2), .val (.int p0_3), .val (.int (own_v0_0 p0_0)), .val (.int (own_v0_1 p0_0 p0_1)), .val (.int (p0_2 &&& (15 : Int32))), .val (.double (own_v0_2 p0_2)), .second, .unset, .unset, .unset, .unset, .unset, .unset, .unset, .unset, .unset, .unset, .unset, .unset]) rfl ?_
    show Steps p.tables e below (Tk0_1.setTop (mkF m 38 #[.val (.int p0_0), .val (.int p0_1), .val (.int p0_2), .val (.int p0_3), .val (.int (own_v0_0 p0_0)), .val (.int (own_v0_1 p0_0 p0_1)), .val (.int (p0_2 &&& (15 : Int32))), .val (.double (own_v0_2 p0_2)), .second, .unset, .unset, .unset, .unset, .unset, .unset, .unset, .unset, .unset, .unset, .unset, .unset] [])) _
    refine XS.iload Xk0_1.here hx rfl (hb hby at_38) rfl ?_
    show Steps p.tables e below (Tk0_1.setTop (mkF m 40 #[.val (.int p0_0), .val (.int p0_1), .val (.int p0_2), .val (.int p0_3), .val (.int (own_v0_0 p0_0)), .val (.int (own_v0_1 p0_0 p0_1)), .val (.int (p0_2 &&& (15 : Int32))), .val (.double (own_v0_2 p0_2)), .second, .unset, .unset, .unset, .unset, .unset, .unset, .unset, .unset, .unset, .unset, .unset, .unset] [(.int (own_v0_0 p0_0))])) _
    refine XS.i2dS Xk0_1.here hx rfl (hb hby at_40) rfl rfl ?_
    show Steps p.tables e below (Tk0_1.setTop (mkF m 41 #[.val (.int p0_0), .val (.int p0_1), .val (.int p0_2), .val (.int p0_3), .val (.int (own_v0_0 p0_0)), .val (.int (own_v0_1 p0_0 p0_1)), .val (.int (p0_2 &&& (15 : Int32))), .val (.double (own_v0_2 p0_2)), .second, .unset, .unset, .unset, .unset, .unset, .unset, .unset, .unset, .unset, .unset, .unset, .unset] [(.double (FP.i2d (own_v0_0 p0_0)))])) _
    refine XS.dload Xk0_1.here hx rfl (hb hby at_41) rfl ?_
    show Steps p.tables e below (Tk0_1.setTop (mkF m 43 #[.val (.int p0_0), .val (.int p0_1), .val (.int p0_2), .val (.int p0_3), .val (.int (own_v0_0 p0_0)), .val (.int (own_v0_1 p0_0 p0_1)), .val (.int (p0_2 &&& (15 : Int32))), .val (.double (own_v0_2 p0_2)), .second, .unset, .unset, .unset, .unset, .unset, .unset, .unset, .unset, .unset, .unset, .unset, .unset] [(.double (own_v0_2 p0_2)), (.double (FP.i2d (own_v0_0 p0_0)))])) _
    refine XS.ddivS Xk0_1.here hx rfl (hb hby at_43) rfl nn43 rfl ?_
    show Steps p.tables e below (Tk0_1.setTop (mkF m 44 #[.val (.int p0_0), .val (.int p0_1), .val (.int p0_2), .val (.int p0_3), .val (.int (own_v0_0 p0_0)), .val (.int (own_v0_1 p0_0 p0_1)), .val (.int (p0_2 &&& (15 : Int32))), .val (.double (own_v0_2 p0_2)), .second, .unset, .unset, .unset, .unset, .unset, .unset, .unset, .unset, .unset, .unset, .unset, .unset] [(.double (FP.ddiv (FP.i2d (own_v0_0 p0_0)) (own_v0_2 p0_2)))])) _
    refine XS.dstore Xk0_1.here hx rfl (hb hby at_44) rfl (l' := #[.val (.int p0_0), .val (.int p0_1), .val (.int p0_2), .val (.int p0_3), .val (.int (own_v0_0 p0_0)), .val (.int (own_v0_1 p0_0 p0_1)), .val (.int (p0_2 &&& (15 : Int32))), .val (.double (own_v0_2 p0_2)), .second, .val (.double (own_v0_3 p0_0 p0_2)), .second, .unset, .unset, .unset, .unset, .unset, .unset, .unset, .unset, .unset, .unset]) rfl ?_
    show Steps p.tables e below (Tk0_1.setTop (mkF m 46 #[.val (.int p0_0), .val (.int p0_1), .val (.int p0_2), .val (.int p0_3), .val (.int (own_v0_0 p0_0)), .val (.int (own_v0_1 p0_0 p0_1)), .val (.int (p0_2 &&& (15 : Int32))), .val (.double (own_v0_2 p0_2)), .second, .val (.double (own_v0_3 p0_0 p0_2)), .second, .unset, .unset, .unset, .unset, .unset, .unset, .unset, .unset, .unset, .unset] [])) _
    refine XS.iload Xk0_1.here hx rfl (hb hby at_46) rfl ?_
    show Steps p.tables e below (Tk0_1.setTop (mkF m 48 #[.val (.int p0_0), .val (.int p0_1), .val (.int p0_2), .val (.int p0_3), .val (.int (own_v0_0 p0_0)), .val (.int (own_v0_1 p0_0 p0_1)), .val (.int (p0_2 &&& (15 : Int32))), .val (.double (own_v0_2 p0_2)), .second, .val (.double (own_v0_3 p0_0 p0_2)), .second, .unset, .unset, .unset, .unset, .unset, .unset, .unset, .unset, .unset, .unset] [(.int (own_v0_0 p0_0))])) _
    refine XS.iloadN Xk0_1.here hx rfl (hb hby at_48) rfl ?_
    show Steps p.tables e below (Tk0_1.setTop (mkF m 49 #[.val (.int p0_0), .val (.int p0_1), .val (.int p0_2), .val (.int p0_3), .val (.int (own_v0_0 p0_0)), .val (.int (own_v0_1 p0_0 p0_1)), .val (.int (p0_2 &&& (15 : Int32))), .val (.double (own_v0_2 p0_2)), .second, .val (.double (own_v0_3 p0_0 p0_2)), .second, .unset, .unset, .unset, .unset, .unset, .unset, .unset, .unset, .unset, .unset] [(.int p0_3), (.int (own_v0_0 p0_0))])) _
    refine Xk0_1.ldcInt hx hown (mvT hZ (hw _ (List.mem_of_getElem? (i := 0) rfl))) (g := (mkF m 49 #[.val (.int p0_0), .val (.int p0_1), .val (.int p0_2), .val (.int p0_3), .val (.int (own_v0_0 p0_0)), .val (.int (own_v0_1 p0_0 p0_1)), .val (.int (p0_2 &&& (15 : Int32))), .val (.double (own_v0_2 p0_2)), .second, .val (.double (own_v0_3 p0_0 p0_2)), .second, .unset, .unset, .unset, .unset, .unset, .unset, .unset, .unset, .unset, .unset] [(.int p0_3), (.int (own_v0_0 p0_0))])) rfl (hb hby at_49) _ ?_
    show Steps p.tables e below (Tk0_1.setTop (mkF m 51 #[.val (.int p0_0), .val (.int p0_1), .val (.int p0_2), .val (.int p0_3), .val (.int (own_v0_0 p0_0)), .val (.int (own_v0_1 p0_0 p0_1)), .val (.int (p0_2 &&& (15 : Int32))), .val (.double (own_v0_2 p0_2)), .second, .val (.double (own_v0_3 p0_0 p0_2)), .second, .unset, .unset, .unset, .unset, .unset, .unset, .unset, .unset, .unset, .unset] [(.int (2147483647 : Int32)), (.int p0_3), (.int (own_v0_0 p0_0))])) _
    refine XS.iand Xk0_1.here hx rfl (hb hby at_51) rfl ?_
    show Steps p.tables e below (Tk0_1.setTop (mkF m 52 #[.val (.int p0_0), .val (.int p0_1), .val (.int p0_2), .val (.int p0_3), .val (.int (own_v0_0 p0_0)), .val (.int (own_v0_1 p0_0 p0_1)), .val (.int (p0_2 &&& (15 : Int32))), .val (.double (own_v0_2 p0_2)), .second, .val (.double (own_v0_3 p0_0 p0_2)), .second, .unset, .unset, .unset, .unset, .unset, .unset, .unset, .unset, .unset, .unset] [(.int (p0_3 &&& (2147483647 : Int32))), (.int (own_v0_0 p0_0))])) _
    refine Xk0_1.ldcInt hx hown (mvT hZ (hw _ (List.mem_of_getElem? (i := 0) rfl))) (g := (mkF m 52 #[.val (.int p0_0), .val (.int p0_1), .val (.int p0_2), .val (.int p0_3), .val (.int (own_v0_0 p0_0)), .val (.int (own_v0_1 p0_0 p0_1)), .val (.int (p0_2 &&& (15 : Int32))), .val (.double (own_v0_2 p0_2)), .second, .val (.double (own_v0_3 p0_0 p0_2)), .second, .unset, .unset, .unset, .unset, .unset, .unset, .unset, .unset, .unset, .unset] [(.int (p0_3 &&& (2147483647 : Int32))), (.int (own_v0_0 p0_0))])) rfl (hb hby at_52) _ ?_
    show Steps p.tables e below (Tk0_1.setTop (mkF m 54 #[.val (.int p0_0), .val (.int p0_1), .val (.int p0_2), .val (.int p0_3), .val (.int (own_v0_0 p0_0)), .val (.int (own_v0_1 p0_0 p0_1)), .val (.int (p0_2 &&& (15 : Int32))), .val (.double (own_v0_2 p0_2)), .second, .val (.double (own_v0_3 p0_0 p0_2)), .second, .unset, .unset, .unset, .unset, .unset, .unset, .unset, .unset, .unset, .unset] [(.int (2147483647 : Int32)), (.int (p0_3 &&& (2147483647 : Int32))), (.int (own_v0_0 p0_0))])) _
    refine XS.iload Xk0_1.here hx rfl (hb hby at_54) rfl ?_
    show Steps p.tables e below (Tk0_1.setTop (mkF m 56 #[.val (.int p0_0), .val (.int p0_1), .val (.int p0_2), .val (.int p0_3), .val (.int (own_v0_0 p0_0)), .val (.int (own_v0_1 p0_0 p0_1)), .val (.int (p0_2 &&& (15 : Int32))), .val (.double (own_v0_2 p0_2)), .second, .val (.double (own_v0_3 p0_0 p0_2)), .second, .unset, .unset, .unset, .unset, .unset, .unset, .unset, .unset, .unset, .unset] [(.int (own_v0_0 p0_0)), (.int (2147483647 : Int32)), (.int (p0_3 &&& (2147483647 : Int32))), (.int (own_v0_0 p0_0))])) _
    refine XS.isub Xk0_1.here hx rfl (hb hby at_56) rfl ?_
    show Steps p.tables e below (Tk0_1.setTop (mkF m 57 #[.val (.int p0_0), .val (.int p0_1), .val (.int p0_2), .val (.int p0_3), .val (.int (own_v0_0 p0_0)), .val (.int (own_v0_1 p0_0 p0_1)), .val (.int (p0_2 &&& (15 : Int32))), .val (.double (own_v0_2 p0_2)), .second, .val (.double (own_v0_3 p0_0 p0_2)), .second, .unset, .unset, .unset, .unset, .unset, .unset, .unset, .unset, .unset, .unset] [(.int ((2147483647 : Int32) - (own_v0_0 p0_0))), (.int (p0_3 &&& (2147483647 : Int32))), (.int (own_v0_0 p0_0))])) _
    refine XS.iconst Xk0_1.here hx rfl (hb hby at_57) ?_
    show Steps p.tables e below (Tk0_1.setTop (mkF m 58 #[.val (.int p0_0), .val (.int p0_1), .val (.int p0_2), .val (.int p0_3), .val (.int (own_v0_0 p0_0)), .val (.int (own_v0_1 p0_0 p0_1)), .val (.int (p0_2 &&& (15 : Int32))), .val (.double (own_v0_2 p0_2)), .second, .val (.double (own_v0_3 p0_0 p0_2)), .second, .unset, .unset, .unset, .unset, .unset, .unset, .unset, .unset, .unset, .unset] [(.int (1 : Int32)), (.int ((2147483647 : Int32) - (own_v0_0 p0_0))), (.int (p0_3 &&& (2147483647 : Int32))), (.int (own_v0_0 p0_0))])) _
    refine XS.iadd Xk0_1.here hx rfl (hb hby at_58) rfl ?_
    show Steps p.tables e below (Tk0_1.setTop (mkF m 59 #[.val (.int p0_0), .val (.int p0_1), .val (.int p0_2), .val (.int p0_3), .val (.int (own_v0_0 p0_0)), .val (.int (own_v0_1 p0_0 p0_1)), .val (.int (p0_2 &&& (15 : Int32))), .val (.double (own_v0_2 p0_2)), .second, .val (.double (own_v0_3 p0_0 p0_2)), .second, .unset, .unset, .unset, .unset, .unset, .unset, .unset, .unset, .unset, .unset] [(.int (((2147483647 : Int32) - (own_v0_0 p0_0)) + (1 : Int32))), (.int (p0_3 &&& (2147483647 : Int32))), (.int (own_v0_0 p0_0))])) _
    refine XS.irem Xk0_1.here hx rfl (hb hby at_59) rfl hz59 ?_
    show Steps p.tables e below (Tk0_1.setTop (mkF m 60 #[.val (.int p0_0), .val (.int p0_1), .val (.int p0_2), .val (.int p0_3), .val (.int (own_v0_0 p0_0)), .val (.int (own_v0_1 p0_0 p0_1)), .val (.int (p0_2 &&& (15 : Int32))), .val (.double (own_v0_2 p0_2)), .second, .val (.double (own_v0_3 p0_0 p0_2)), .second, .unset, .unset, .unset, .unset, .unset, .unset, .unset, .unset, .unset, .unset] [(.int ((p0_3 &&& (2147483647 : Int32)) - ((p0_3 &&& (2147483647 : Int32)) / (((2147483647 : Int32) - (own_v0_0 p0_0)) + (1 : Int32))) * (((2147483647 : Int32) - (own_v0_0 p0_0)) + (1 : Int32)))), (.int (own_v0_0 p0_0))])) _
    refine XS.iadd Xk0_1.here hx rfl (hb hby at_60) rfl ?_
    show Steps p.tables e below (Tk0_1.setTop (mkF m 61 #[.val (.int p0_0), .val (.int p0_1), .val (.int p0_2), .val (.int p0_3), .val (.int (own_v0_0 p0_0)), .val (.int (own_v0_1 p0_0 p0_1)), .val (.int (p0_2 &&& (15 : Int32))), .val (.double (own_v0_2 p0_2)), .second, .val (.double (own_v0_3 p0_0 p0_2)), .second, .unset, .unset, .unset, .unset, .unset, .unset, .unset, .unset, .unset, .unset] [(.int ((own_v0_0 p0_0) + ((p0_3 &&& (2147483647 : Int32)) - ((p0_3 &&& (2147483647 : Int32)) / (((2147483647 : Int32) - (own_v0_0 p0_0)) + (1 : Int32))) * (((2147483647 : Int32) - (own_v0_0 p0_0)) + (1 : Int32)))))])) _
    refine XS.istore Xk0_1.here hx rfl (hb hby at_61) rfl (l' := #[.val (.int p0_0), .val (.int p0_1), .val (.int p0_2), .val (.int p0_3), .val (.int (own_v0_0 p0_0)), .val (.int (own_v0_1 p0_0 p0_1)), .val (.int (p0_2 &&& (15 : Int32))), .val (.double (own_v0_2 p0_2)), .second, .val (.double (own_v0_3 p0_0 p0_2)), .second, .val (.int (own_v0_4 p0_0 p0_3)), .unset, .unset, .unset, .unset, .unset, .unset, .unset, .unset, .unset]) rfl ?_
    show Steps p.tables e below (Tk0_1.setTop (mkF m 63 #[.val (.int p0_0), .val (.int p0_1), .val (.int p0_2), .val (.int p0_3), .val (.int (own_v0_0 p0_0)), .val (.int (own_v0_1 p0_0 p0_1)), .val (.int (p0_2 &&& (15 : Int32))), .val (.double (own_v0_2 p0_2)), .second, .val (.double (own_v0_3 p0_0 p0_2)), .second, .val (.int (own_v0_4 p0_0 p0_3)), .unset, .unset, .unset, .unset, .unset, .unset, .unset, .unset, .unset] [])) _
    refine stn0_2 _ ?_
    show Steps p.tables e below (Tn0_2.setTop (mkF m 66 #[.val (.int p0_0), .val (.int p0_1), .val (.int p0_2), .val (.int p0_3), .val (.int (own_v0_0 p0_0)), .val (.int (own_v0_1 p0_0 p0_1)), .val (.int (p0_2 &&& (15 : Int32))), .val (.double (own_v0_2 p0_2)), .second, .val (.double (own_v0_3 p0_0 p0_2)), .second, .val (.int (own_v0_4 p0_0 p0_3)), .unset, .unset, .unset, .unset, .unset, .unset, .unset, .unset, .unset] [(.ref bn0_2)])) _
    refine XS.dup Xn0_2.here hx rfl (hb hby at_66) rfl rfl ?_
    show Steps p.tables e below (Tn0_2.setTop (mkF m 67 #[.val (.int p0_0), .val (.int p0_1), .val (.int p0_2), .val (.int p0_3), .val (.int (own_v0_0 p0_0)), .val (.int (own_v0_1 p0_0 p0_1)), .val (.int (p0_2 &&& (15 : Int32))), .val (.double (own_v0_2 p0_2)), .second, .val (.double (own_v0_3 p0_0 p0_2)), .second, .val (.int (own_v0_4 p0_0 p0_3)), .unset, .unset, .unset, .unset, .unset, .unset, .unset, .unset, .unset] [(.ref bn0_2), (.ref bn0_2)])) _
    refine XT.lconst Xn0_2.here hx rfl (hb hby at_67) ?_
    show Steps p.tables e below (Tn0_2.setTop (mkF m 68 #[.val (.int p0_0), .val (.int p0_1), .val (.int p0_2), .val (.int p0_3), .val (.int (own_v0_0 p0_0)), .val (.int (own_v0_1 p0_0 p0_1)), .val (.int (p0_2 &&& (15 : Int32))), .val (.double (own_v0_2 p0_2)), .second, .val (.double (own_v0_3 p0_0 p0_2)), .second, .val (.int (own_v0_4 p0_0 p0_3)), .unset, .unset, .unset, .unset, .unset, .unset, .unset, .unset, .unset] [(.long (1 : Int64)), (.ref bn0_2), (.ref bn0_2)])) _
    refine XS.dload Xn0_2.here hx rfl (hb hby at_68) rfl ?_
    show Steps p.tables e below (Tn0_2.setTop (mkF m 70 #[.val (.int p0_0), .val (.int p0_1), .val (.int p0_2), .val (.int p0_3), .val (.int (own_v0_0 p0_0)), .val (.int (own_v0_1 p0_0 p0_1)), .val (.int (p0_2 &&& (15 : Int32))), .val (.double (own_v0_2 p0_2)), .second, .val (.double (own_v0_3 p0_0 p0_2)), .second, .val (.int (own_v0_4 p0_0 p0_3)), .unset, .unset, .unset, .unset, .unset, .unset, .unset, .unset, .unset] [(.double (own_v0_3 p0_0 p0_2)), (.long (1 : Int64)), (.ref bn0_2), (.ref bn0_2)])) _
    refine stk0_4.trans ?_
    show Steps p.tables e below (Tk0_4.setTop (mkF m 73 #[.val (.int p0_0), .val (.int p0_1), .val (.int p0_2), .val (.int p0_3), .val (.int (own_v0_0 p0_0)), .val (.int (own_v0_1 p0_0 p0_1)), .val (.int (p0_2 &&& (15 : Int32))), .val (.double (own_v0_2 p0_2)), .second, .val (.double (own_v0_3 p0_0 p0_2)), .second, .val (.int (own_v0_4 p0_0 p0_3)), .unset, .unset, .unset, .unset, .unset, .unset, .unset, .unset, .unset] [(.ref bn0_2)])) _
    refine XS.astore Xk0_4.here hx rfl (hb hby at_73) rfl rfl (l' := #[.val (.int p0_0), .val (.int p0_1), .val (.int p0_2), .val (.int p0_3), .val (.int (own_v0_0 p0_0)), .val (.int (own_v0_1 p0_0 p0_1)), .val (.int (p0_2 &&& (15 : Int32))), .val (.double (own_v0_2 p0_2)), .second, .val (.double (own_v0_3 p0_0 p0_2)), .second, .val (.int (own_v0_4 p0_0 p0_3)), .val (.ref bn0_2), .unset, .unset, .unset, .unset, .unset, .unset, .unset, .unset]) rfl ?_
    show Steps p.tables e below (Tk0_4.setTop (mkF m 75 #[.val (.int p0_0), .val (.int p0_1), .val (.int p0_2), .val (.int p0_3), .val (.int (own_v0_0 p0_0)), .val (.int (own_v0_1 p0_0 p0_1)), .val (.int (p0_2 &&& (15 : Int32))), .val (.double (own_v0_2 p0_2)), .second, .val (.double (own_v0_3 p0_0 p0_2)), .second, .val (.int (own_v0_4 p0_0 p0_3)), .val (.ref bn0_2), .unset, .unset, .unset, .unset, .unset, .unset, .unset, .unset] [])) _
    refine XS.aload Xk0_4.here hx rfl (hb hby at_75) rfl rfl ?_
    show Steps p.tables e below (Tk0_4.setTop (mkF m 77 #[.val (.int p0_0), .val (.int p0_1), .val (.int p0_2), .val (.int p0_3), .val (.int (own_v0_0 p0_0)), .val (.int (own_v0_1 p0_0 p0_1)), .val (.int (p0_2 &&& (15 : Int32))), .val (.double (own_v0_2 p0_2)), .second, .val (.double (own_v0_3 p0_0 p0_2)), .second, .val (.int (own_v0_4 p0_0 p0_3)), .val (.ref bn0_2), .unset, .unset, .unset, .unset, .unset, .unset, .unset, .unset] [(.ref bn0_2)])) _
    refine XS.iload Xk0_4.here hx rfl (hb hby at_77) rfl ?_
    show Steps p.tables e below (Tk0_4.setTop (mkF m 79 #[.val (.int p0_0), .val (.int p0_1), .val (.int p0_2), .val (.int p0_3), .val (.int (own_v0_0 p0_0)), .val (.int (own_v0_1 p0_0 p0_1)), .val (.int (p0_2 &&& (15 : Int32))), .val (.double (own_v0_2 p0_2)), .second, .val (.double (own_v0_3 p0_0 p0_2)), .second, .val (.int (own_v0_4 p0_0 p0_3)), .val (.ref bn0_2), .unset, .unset, .unset, .unset, .unset, .unset, .unset, .unset] [(.int (own_v0_1 p0_0 p0_1)), (.ref bn0_2)])) _
    refine XS.iload Xk0_4.here hx rfl (hb hby at_79) rfl ?_
    show Steps p.tables e below (Tk0_4.setTop (mkF m 81 #[.val (.int p0_0), .val (.int p0_1), .val (.int p0_2), .val (.int p0_3), .val (.int (own_v0_0 p0_0)), .val (.int (own_v0_1 p0_0 p0_1)), .val (.int (p0_2 &&& (15 : Int32))), .val (.double (own_v0_2 p0_2)), .second, .val (.double (own_v0_3 p0_0 p0_2)), .second, .val (.int (own_v0_4 p0_0 p0_3)), .val (.ref bn0_2), .unset, .unset, .unset, .unset, .unset, .unset, .unset, .unset] [(.int (own_v0_0 p0_0)), (.int (own_v0_1 p0_0 p0_1)), (.ref bn0_2)])) _
    refine stk0_6.trans ?_
    show Steps p.tables e below (Tk0_6.setTop (mkF m 84 #[.val (.int p0_0), .val (.int p0_1), .val (.int p0_2), .val (.int p0_3), .val (.int (own_v0_0 p0_0)), .val (.int (own_v0_1 p0_0 p0_1)), .val (.int (p0_2 &&& (15 : Int32))), .val (.double (own_v0_2 p0_2)), .second, .val (.double (own_v0_3 p0_0 p0_2)), .second, .val (.int (own_v0_4 p0_0 p0_3)), .val (.ref bn0_2), .unset, .unset, .unset, .unset, .unset, .unset, .unset, .unset] [(.double (own_r6_0 (own_v0_1 p0_0 p0_1) (own_v0_0 p0_0) (own_v0_3 p0_0 p0_2)))])) _
    refine XS.dstore Xk0_6.here hx rfl (hb hby at_84) rfl (l' := #[.val (.int p0_0), .val (.int p0_1), .val (.int p0_2), .val (.int p0_3), .val (.int (own_v0_0 p0_0)), .val (.int (own_v0_1 p0_0 p0_1)), .val (.int (p0_2 &&& (15 : Int32))), .val (.double (own_v0_2 p0_2)), .second, .val (.double (own_v0_3 p0_0 p0_2)), .second, .val (.int (own_v0_4 p0_0 p0_3)), .val (.ref bn0_2), .val (.double (own_v0_5 p0_0 p0_1 p0_2)), .second, .unset, .unset, .unset, .unset, .unset, .unset]) rfl ?_
    show Steps p.tables e below (Tk0_6.setTop (mkF m 86 #[.val (.int p0_0), .val (.int p0_1), .val (.int p0_2), .val (.int p0_3), .val (.int (own_v0_0 p0_0)), .val (.int (own_v0_1 p0_0 p0_1)), .val (.int (p0_2 &&& (15 : Int32))), .val (.double (own_v0_2 p0_2)), .second, .val (.double (own_v0_3 p0_0 p0_2)), .second, .val (.int (own_v0_4 p0_0 p0_3)), .val (.ref bn0_2), .val (.double (own_v0_5 p0_0 p0_1 p0_2)), .second, .unset, .unset, .unset, .unset, .unset, .unset] [])) _
    refine XS.aload Xk0_6.here hx rfl (hb hby at_86) rfl rfl ?_
    show Steps p.tables e below (Tk0_6.setTop (mkF m 88 #[.val (.int p0_0), .val (.int p0_1), .val (.int p0_2), .val (.int p0_3), .val (.int (own_v0_0 p0_0)), .val (.int (own_v0_1 p0_0 p0_1)), .val (.int (p0_2 &&& (15 : Int32))), .val (.double (own_v0_2 p0_2)), .second, .val (.double (own_v0_3 p0_0 p0_2)), .second, .val (.int (own_v0_4 p0_0 p0_3)), .val (.ref bn0_2), .val (.double (own_v0_5 p0_0 p0_1 p0_2)), .second, .unset, .unset, .unset, .unset, .unset, .unset] [(.ref bn0_2)])) _
    refine XS.iload Xk0_6.here hx rfl (hb hby at_88) rfl ?_
    show Steps p.tables e below (Tk0_6.setTop (mkF m 90 #[.val (.int p0_0), .val (.int p0_1), .val (.int p0_2), .val (.int p0_3), .val (.int (own_v0_0 p0_0)), .val (.int (own_v0_1 p0_0 p0_1)), .val (.int (p0_2 &&& (15 : Int32))), .val (.double (own_v0_2 p0_2)), .second, .val (.double (own_v0_3 p0_0 p0_2)), .second, .val (.int (own_v0_4 p0_0 p0_3)), .val (.ref bn0_2), .val (.double (own_v0_5 p0_0 p0_1 p0_2)), .second, .unset, .unset, .unset, .unset, .unset, .unset] [(.int (own_v0_1 p0_0 p0_1)), (.ref bn0_2)])) _
    refine XS.iload Xk0_6.here hx rfl (hb hby at_90) rfl ?_
    show Steps p.tables e below (Tk0_6.setTop (mkF m 92 #[.val (.int p0_0), .val (.int p0_1), .val (.int p0_2), .val (.int p0_3), .val (.int (own_v0_0 p0_0)), .val (.int (own_v0_1 p0_0 p0_1)), .val (.int (p0_2 &&& (15 : Int32))), .val (.double (own_v0_2 p0_2)), .second, .val (.double (own_v0_3 p0_0 p0_2)), .second, .val (.int (own_v0_4 p0_0 p0_3)), .val (.ref bn0_2), .val (.double (own_v0_5 p0_0 p0_1 p0_2)), .second, .unset, .unset, .unset, .unset, .unset, .unset] [(.int (own_v0_4 p0_0 p0_3)), (.int (own_v0_1 p0_0 p0_1)), (.ref bn0_2)])) _
    refine stk0_7.trans ?_
    show Steps p.tables e below (Tk0_7.setTop (mkF m 95 #[.val (.int p0_0), .val (.int p0_1), .val (.int p0_2), .val (.int p0_3), .val (.int (own_v0_0 p0_0)), .val (.int (own_v0_1 p0_0 p0_1)), .val (.int (p0_2 &&& (15 : Int32))), .val (.double (own_v0_2 p0_2)), .second, .val (.double (own_v0_3 p0_0 p0_2)), .second, .val (.int (own_v0_4 p0_0 p0_3)), .val (.ref bn0_2), .val (.double (own_v0_5 p0_0 p0_1 p0_2)), .second, .unset, .unset, .unset, .unset, .unset, .unset] [(.double (own_r6_0 (own_v0_1 p0_0 p0_1) (own_v0_4 p0_0 p0_3) (own_v0_3 p0_0 p0_2)))])) _
    refine XS.dstore Xk0_7.here hx rfl (hb hby at_95) rfl (l' := #[.val (.int p0_0), .val (.int p0_1), .val (.int p0_2), .val (.int p0_3), .val (.int (own_v0_0 p0_0)), .val (.int (own_v0_1 p0_0 p0_1)), .val (.int (p0_2 &&& (15 : Int32))), .val (.double (own_v0_2 p0_2)), .second, .val (.double (own_v0_3 p0_0 p0_2)), .second, .val (.int (own_v0_4 p0_0 p0_3)), .val (.ref bn0_2), .val (.double (own_v0_5 p0_0 p0_1 p0_2)), .second, .val (.double (own_v0_6 p0_0 p0_1 p0_2 p0_3)), .second, .unset, .unset, .unset, .unset]) rfl ?_
    show Steps p.tables e below (Tk0_7.setTop (mkF m 97 #[.val (.int p0_0), .val (.int p0_1), .val (.int p0_2), .val (.int p0_3), .val (.int (own_v0_0 p0_0)), .val (.int (own_v0_1 p0_0 p0_1)), .val (.int (p0_2 &&& (15 : Int32))), .val (.double (own_v0_2 p0_2)), .second, .val (.double (own_v0_3 p0_0 p0_2)), .second, .val (.int (own_v0_4 p0_0 p0_3)), .val (.ref bn0_2), .val (.double (own_v0_5 p0_0 p0_1 p0_2)), .second, .val (.double (own_v0_6 p0_0 p0_1 p0_2 p0_3)), .second, .unset, .unset, .unset, .unset] [])) _
    refine Xk0_7.ldc2DoubleC hx hown (mvT hZ (hw _ (List.mem_of_getElem? (i := 44) rfl))) (g := (mkF m 97 #[.val (.int p0_0), .val (.int p0_1), .val (.int p0_2), .val (.int p0_3), .val (.int (own_v0_0 p0_0)), .val (.int (own_v0_1 p0_0 p0_1)), .val (.int (p0_2 &&& (15 : Int32))), .val (.double (own_v0_2 p0_2)), .second, .val (.double (own_v0_3 p0_0 p0_2)), .second, .val (.int (own_v0_4 p0_0 p0_3)), .val (.ref bn0_2), .val (.double (own_v0_5 p0_0 p0_1 p0_2)), .second, .val (.double (own_v0_6 p0_0 p0_1 p0_2 p0_3)), .second, .unset, .unset, .unset, .unset] [])) rfl (hb hby at_97) _ ?_
    show Steps p.tables e below (Tk0_7.setTop (mkF m 100 #[.val (.int p0_0), .val (.int p0_1), .val (.int p0_2), .val (.int p0_3), .val (.int (own_v0_0 p0_0)), .val (.int (own_v0_1 p0_0 p0_1)), .val (.int (p0_2 &&& (15 : Int32))), .val (.double (own_v0_2 p0_2)), .second, .val (.double (own_v0_3 p0_0 p0_2)), .second, .val (.int (own_v0_4 p0_0 p0_3)), .val (.ref bn0_2), .val (.double (own_v0_5 p0_0 p0_1 p0_2)), .second, .val (.double (own_v0_6 p0_0 p0_1 p0_2 p0_3)), .second, .unset, .unset, .unset, .unset] [(.double (4608083138725491507 : UInt64))])) _
    refine Xk0_7.ldc2DoubleC hx hown (mvT hZ (hw _ (List.mem_of_getElem? (i := 45) rfl))) (g := (mkF m 100 #[.val (.int p0_0), .val (.int p0_1), .val (.int p0_2), .val (.int p0_3), .val (.int (own_v0_0 p0_0)), .val (.int (own_v0_1 p0_0 p0_1)), .val (.int (p0_2 &&& (15 : Int32))), .val (.double (own_v0_2 p0_2)), .second, .val (.double (own_v0_3 p0_0 p0_2)), .second, .val (.int (own_v0_4 p0_0 p0_3)), .val (.ref bn0_2), .val (.double (own_v0_5 p0_0 p0_1 p0_2)), .second, .val (.double (own_v0_6 p0_0 p0_1 p0_2 p0_3)), .second, .unset, .unset, .unset, .unset] [(.double (4608083138725491507 : UInt64))])) rfl (hb hby at_100) _ ?_
    show Steps p.tables e below (Tk0_7.setTop (mkF m 103 #[.val (.int p0_0), .val (.int p0_1), .val (.int p0_2), .val (.int p0_3), .val (.int (own_v0_0 p0_0)), .val (.int (own_v0_1 p0_0 p0_1)), .val (.int (p0_2 &&& (15 : Int32))), .val (.double (own_v0_2 p0_2)), .second, .val (.double (own_v0_3 p0_0 p0_2)), .second, .val (.int (own_v0_4 p0_0 p0_3)), .val (.ref bn0_2), .val (.double (own_v0_5 p0_0 p0_1 p0_2)), .second, .val (.double (own_v0_6 p0_0 p0_1 p0_2 p0_3)), .second, .unset, .unset, .unset, .unset] [(.double (4598175219545276416 : UInt64)), (.double (4608083138725491507 : UInt64))])) _
    refine Xk0_7.ldc2DoubleC hx hown (mvT hZ (hw _ (List.mem_of_getElem? (i := 46) rfl))) (g := (mkF m 103 #[.val (.int p0_0), .val (.int p0_1), .val (.int p0_2), .val (.int p0_3), .val (.int (own_v0_0 p0_0)), .val (.int (own_v0_1 p0_0 p0_1)), .val (.int (p0_2 &&& (15 : Int32))), .val (.double (own_v0_2 p0_2)), .second, .val (.double (own_v0_3 p0_0 p0_2)), .second, .val (.int (own_v0_4 p0_0 p0_3)), .val (.ref bn0_2), .val (.double (own_v0_5 p0_0 p0_1 p0_2)), .second, .val (.double (own_v0_6 p0_0 p0_1 p0_2 p0_3)), .second, .unset, .unset, .unset, .unset] [(.double (4598175219545276416 : UInt64)), (.double (4608083138725491507 : UInt64))])) rfl (hb hby at_103) _ ?_
    show Steps p.tables e below (Tk0_7.setTop (mkF m 106 #[.val (.int p0_0), .val (.int p0_1), .val (.int p0_2), .val (.int p0_3), .val (.int (own_v0_0 p0_0)), .val (.int (own_v0_1 p0_0 p0_1)), .val (.int (p0_2 &&& (15 : Int32))), .val (.double (own_v0_2 p0_2)), .second, .val (.double (own_v0_3 p0_0 p0_2)), .second, .val (.int (own_v0_4 p0_0 p0_3)), .val (.ref bn0_2), .val (.double (own_v0_5 p0_0 p0_1 p0_2)), .second, .val (.double (own_v0_6 p0_0 p0_1 p0_2 p0_3)), .second, .unset, .unset, .unset, .unset] [(.double (4604930618986332160 : UInt64)), (.double (4598175219545276416 : UInt64)), (.double (4608083138725491507 : UInt64))])) _
    refine XS.dload Xk0_7.here hx rfl (hb hby at_106) rfl ?_
    show Steps p.tables e below (Tk0_7.setTop (mkF m 108 #[.val (.int p0_0), .val (.int p0_1), .val (.int p0_2), .val (.int p0_3), .val (.int (own_v0_0 p0_0)), .val (.int (own_v0_1 p0_0 p0_1)), .val (.int (p0_2 &&& (15 : Int32))), .val (.double (own_v0_2 p0_2)), .second, .val (.double (own_v0_3 p0_0 p0_2)), .second, .val (.int (own_v0_4 p0_0 p0_3)), .val (.ref bn0_2), .val (.double (own_v0_5 p0_0 p0_1 p0_2)), .second, .val (.double (own_v0_6 p0_0 p0_1 p0_2 p0_3)), .second, .unset, .unset, .unset, .unset] [(.double (own_v0_2 p0_2)), (.double (4604930618986332160 : UInt64)), (.double (4598175219545276416 : UInt64)), (.double (4608083138725491507 : UInt64))])) _
    refine XS.dmulS Xk0_7.here hx rfl (hb hby at_108) rfl nn108 rfl ?_
    show Steps p.tables e below (Tk0_7.setTop (mkF m 109 #[.val (.int p0_0), .val (.int p0_1), .val (.int p0_2), .val (.int p0_3), .val (.int (own_v0_0 p0_0)), .val (.int (own_v0_1 p0_0 p0_1)), .val (.int (p0_2 &&& (15 : Int32))), .val (.double (own_v0_2 p0_2)), .second, .val (.double (own_v0_3 p0_0 p0_2)), .second, .val (.int (own_v0_4 p0_0 p0_3)), .val (.ref bn0_2), .val (.double (own_v0_5 p0_0 p0_1 p0_2)), .second, .val (.double (own_v0_6 p0_0 p0_1 p0_2 p0_3)), .second, .unset, .unset, .unset, .unset] [(.double (FP.dmul (4604930618986332160 : UInt64) (own_v0_2 p0_2))), (.double (4598175219545276416 : UInt64)), (.double (4608083138725491507 : UInt64))])) _
    refine XS.daddS Xk0_7.here hx rfl (hb hby at_109) rfl nn109 rfl ?_
    show Steps p.tables e below (Tk0_7.setTop (mkF m 110 #[.val (.int p0_0), .val (.int p0_1), .val (.int p0_2), .val (.int p0_3), .val (.int (own_v0_0 p0_0)), .val (.int (own_v0_1 p0_0 p0_1)), .val (.int (p0_2 &&& (15 : Int32))), .val (.double (own_v0_2 p0_2)), .second, .val (.double (own_v0_3 p0_0 p0_2)), .second, .val (.int (own_v0_4 p0_0 p0_3)), .val (.ref bn0_2), .val (.double (own_v0_5 p0_0 p0_1 p0_2)), .second, .val (.double (own_v0_6 p0_0 p0_1 p0_2 p0_3)), .second, .unset, .unset, .unset, .unset] [(.double (FP.dadd (4598175219545276416 : UInt64) (FP.dmul (4604930618986332160 : UInt64) (own_v0_2 p0_2)))), (.double (4608083138725491507 : UInt64))])) _
    refine XS.dmulS Xk0_7.here hx rfl (hb hby at_110) rfl nn110 rfl ?_
    show Steps p.tables e below (Tk0_7.setTop (mkF m 111 #[.val (.int p0_0), .val (.int p0_1), .val (.int p0_2), .val (.int p0_3), .val (.int (own_v0_0 p0_0)), .val (.int (own_v0_1 p0_0 p0_1)), .val (.int (p0_2 &&& (15 : Int32))), .val (.double (own_v0_2 p0_2)), .second, .val (.double (own_v0_3 p0_0 p0_2)), .second, .val (.int (own_v0_4 p0_0 p0_3)), .val (.ref bn0_2), .val (.double (own_v0_5 p0_0 p0_1 p0_2)), .second, .val (.double (own_v0_6 p0_0 p0_1 p0_2 p0_3)), .second, .unset, .unset, .unset, .unset] [(.double (FP.dmul (4608083138725491507 : UInt64) (FP.dadd (4598175219545276416 : UInt64) (FP.dmul (4604930618986332160 : UInt64) (own_v0_2 p0_2)))))])) _
    refine XS.dstore Xk0_7.here hx rfl (hb hby at_111) rfl (l' := #[.val (.int p0_0), .val (.int p0_1), .val (.int p0_2), .val (.int p0_3), .val (.int (own_v0_0 p0_0)), .val (.int (own_v0_1 p0_0 p0_1)), .val (.int (p0_2 &&& (15 : Int32))), .val (.double (own_v0_2 p0_2)), .second, .val (.double (own_v0_3 p0_0 p0_2)), .second, .val (.int (own_v0_4 p0_0 p0_3)), .val (.ref bn0_2), .val (.double (own_v0_5 p0_0 p0_1 p0_2)), .second, .val (.double (own_v0_6 p0_0 p0_1 p0_2 p0_3)), .second, .val (.double (own_v0_7 p0_2)), .second, .unset, .unset]) rfl ?_
    show Steps p.tables e below (Tk0_7.setTop (mkF m 113 #[.val (.int p0_0), .val (.int p0_1), .val (.int p0_2), .val (.int p0_3), .val (.int (own_v0_0 p0_0)), .val (.int (own_v0_1 p0_0 p0_1)), .val (.int (p0_2 &&& (15 : Int32))), .val (.double (own_v0_2 p0_2)), .second, .val (.double (own_v0_3 p0_0 p0_2)), .second, .val (.int (own_v0_4 p0_0 p0_3)), .val (.ref bn0_2), .val (.double (own_v0_5 p0_0 p0_1 p0_2)), .second, .val (.double (own_v0_6 p0_0 p0_1 p0_2 p0_3)), .second, .val (.double (own_v0_7 p0_2)), .second, .unset, .unset] [])) _
    refine Xk0_7.ldc2DoubleC hx hown (mvT hZ (hw _ (List.mem_of_getElem? (i := 47) rfl))) (g := (mkF m 113 #[.val (.int p0_0), .val (.int p0_1), .val (.int p0_2), .val (.int p0_3), .val (.int (own_v0_0 p0_0)), .val (.int (own_v0_1 p0_0 p0_1)), .val (.int (p0_2 &&& (15 : Int32))), .val (.double (own_v0_2 p0_2)), .second, .val (.double (own_v0_3 p0_0 p0_2)), .second, .val (.int (own_v0_4 p0_0 p0_3)), .val (.ref bn0_2), .val (.double (own_v0_5 p0_0 p0_1 p0_2)), .second, .val (.double (own_v0_6 p0_0 p0_1 p0_2 p0_3)), .second, .val (.double (own_v0_7 p0_2)), .second, .unset, .unset] [])) rfl (hb hby at_113) _ ?_
    show Steps p.tables e below (Tk0_7.setTop (mkF m 116 #[.val (.int p0_0), .val (.int p0_1), .val (.int p0_2), .val (.int p0_3), .val (.int (own_v0_0 p0_0)), .val (.int (own_v0_1 p0_0 p0_1)), .val (.int (p0_2 &&& (15 : Int32))), .val (.double (own_v0_2 p0_2)), .second, .val (.double (own_v0_3 p0_0 p0_2)), .second, .val (.int (own_v0_4 p0_0 p0_3)), .val (.ref bn0_2), .val (.double (own_v0_5 p0_0 p0_1 p0_2)), .second, .val (.double (own_v0_6 p0_0 p0_1 p0_2 p0_3)), .second, .val (.double (own_v0_7 p0_2)), .second, .unset, .unset] [(.double (4612136378390124954 : UInt64))])) _
    refine XS.iload Xk0_7.here hx rfl (hb hby at_116) rfl ?_
    show Steps p.tables e below (Tk0_7.setTop (mkF m 118 #[.val (.int p0_0), .val (.int p0_1), .val (.int p0_2), .val (.int p0_3), .val (.int (own_v0_0 p0_0)), .val (.int (own_v0_1 p0_0 p0_1)), .val (.int (p0_2 &&& (15 : Int32))), .val (.double (own_v0_2 p0_2)), .second, .val (.double (own_v0_3 p0_0 p0_2)), .second, .val (.int (own_v0_4 p0_0 p0_3)), .val (.ref bn0_2), .val (.double (own_v0_5 p0_0 p0_1 p0_2)), .second, .val (.double (own_v0_6 p0_0 p0_1 p0_2 p0_3)), .second, .val (.double (own_v0_7 p0_2)), .second, .unset, .unset] [(.int (own_v0_1 p0_0 p0_1)), (.double (4612136378390124954 : UInt64))])) _
    refine XS.i2dS Xk0_7.here hx rfl (hb hby at_118) rfl rfl ?_
    show Steps p.tables e below (Tk0_7.setTop (mkF m 119 #[.val (.int p0_0), .val (.int p0_1), .val (.int p0_2), .val (.int p0_3), .val (.int (own_v0_0 p0_0)), .val (.int (own_v0_1 p0_0 p0_1)), .val (.int (p0_2 &&& (15 : Int32))), .val (.double (own_v0_2 p0_2)), .second, .val (.double (own_v0_3 p0_0 p0_2)), .second, .val (.int (own_v0_4 p0_0 p0_3)), .val (.ref bn0_2), .val (.double (own_v0_5 p0_0 p0_1 p0_2)), .second, .val (.double (own_v0_6 p0_0 p0_1 p0_2 p0_3)), .second, .val (.double (own_v0_7 p0_2)), .second, .unset, .unset] [(.double (FP.i2d (own_v0_1 p0_0 p0_1))), (.double (4612136378390124954 : UInt64))])) _
    refine XS.dmulS Xk0_7.here hx rfl (hb hby at_119) rfl c81_c31_nn5 rfl ?_
    show Steps p.tables e below (Tk0_7.setTop (mkF m 120 #[.val (.int p0_0), .val (.int p0_1), .val (.int p0_2), .val (.int p0_3), .val (.int (own_v0_0 p0_0)), .val (.int (own_v0_1 p0_0 p0_1)), .val (.int (p0_2 &&& (15 : Int32))), .val (.double (own_v0_2 p0_2)), .second, .val (.double (own_v0_3 p0_0 p0_2)), .second, .val (.int (own_v0_4 p0_0 p0_3)), .val (.ref bn0_2), .val (.double (own_v0_5 p0_0 p0_1 p0_2)), .second, .val (.double (own_v0_6 p0_0 p0_1 p0_2 p0_3)), .second, .val (.double (own_v0_7 p0_2)), .second, .unset, .unset] [(.double (FP.dmul (4612136378390124954 : UInt64) (FP.i2d (own_v0_1 p0_0 p0_1))))])) _
    refine XS.dload Xk0_7.here hx rfl (hb hby at_120) rfl ?_
    show Steps p.tables e below (Tk0_7.setTop (mkF m 122 #[.val (.int p0_0), .val (.int p0_1), .val (.int p0_2), .val (.int p0_3), .val (.int (own_v0_0 p0_0)), .val (.int (own_v0_1 p0_0 p0_1)), .val (.int (p0_2 &&& (15 : Int32))), .val (.double (own_v0_2 p0_2)), .second, .val (.double (own_v0_3 p0_0 p0_2)), .second, .val (.int (own_v0_4 p0_0 p0_3)), .val (.ref bn0_2), .val (.double (own_v0_5 p0_0 p0_1 p0_2)), .second, .val (.double (own_v0_6 p0_0 p0_1 p0_2 p0_3)), .second, .val (.double (own_v0_7 p0_2)), .second, .unset, .unset] [(.double (own_v0_7 p0_2)), (.double (FP.dmul (4612136378390124954 : UInt64) (FP.i2d (own_v0_1 p0_0 p0_1))))])) _
    refine XS.iload Xk0_7.here hx rfl (hb hby at_122) rfl ?_
    show Steps p.tables e below (Tk0_7.setTop (mkF m 124 #[.val (.int p0_0), .val (.int p0_1), .val (.int p0_2), .val (.int p0_3), .val (.int (own_v0_0 p0_0)), .val (.int (own_v0_1 p0_0 p0_1)), .val (.int (p0_2 &&& (15 : Int32))), .val (.double (own_v0_2 p0_2)), .second, .val (.double (own_v0_3 p0_0 p0_2)), .second, .val (.int (own_v0_4 p0_0 p0_3)), .val (.ref bn0_2), .val (.double (own_v0_5 p0_0 p0_1 p0_2)), .second, .val (.double (own_v0_6 p0_0 p0_1 p0_2 p0_3)), .second, .val (.double (own_v0_7 p0_2)), .second, .unset, .unset] [(.int (own_v0_1 p0_0 p0_1)), (.double (own_v0_7 p0_2)), (.double (FP.dmul (4612136378390124954 : UInt64) (FP.i2d (own_v0_1 p0_0 p0_1))))])) _
    refine XS.i2dS Xk0_7.here hx rfl (hb hby at_124) rfl rfl ?_
    show Steps p.tables e below (Tk0_7.setTop (mkF m 125 #[.val (.int p0_0), .val (.int p0_1), .val (.int p0_2), .val (.int p0_3), .val (.int (own_v0_0 p0_0)), .val (.int (own_v0_1 p0_0 p0_1)), .val (.int (p0_2 &&& (15 : Int32))), .val (.double (own_v0_2 p0_2)), .second, .val (.double (own_v0_3 p0_0 p0_2)), .second, .val (.int (own_v0_4 p0_0 p0_3)), .val (.ref bn0_2), .val (.double (own_v0_5 p0_0 p0_1 p0_2)), .second, .val (.double (own_v0_6 p0_0 p0_1 p0_2 p0_3)), .second, .val (.double (own_v0_7 p0_2)), .second, .unset, .unset] [(.double (FP.i2d (own_v0_1 p0_0 p0_1))), (.double (own_v0_7 p0_2)), (.double (FP.dmul (4612136378390124954 : UInt64) (FP.i2d (own_v0_1 p0_0 p0_1))))])) _
    refine XS.daddS Xk0_7.here hx rfl (hb hby at_125) rfl nn125 rfl ?_
    show Steps p.tables e below (Tk0_7.setTop (mkF m 126 #[.val (.int p0_0), .val (.int p0_1), .val (.int p0_2), .val (.int p0_3), .val (.int (own_v0_0 p0_0)), .val (.int (own_v0_1 p0_0 p0_1)), .val (.int (p0_2 &&& (15 : Int32))), .val (.double (own_v0_2 p0_2)), .second, .val (.double (own_v0_3 p0_0 p0_2)), .second, .val (.int (own_v0_4 p0_0 p0_3)), .val (.ref bn0_2), .val (.double (own_v0_5 p0_0 p0_1 p0_2)), .second, .val (.double (own_v0_6 p0_0 p0_1 p0_2 p0_3)), .second, .val (.double (own_v0_7 p0_2)), .second, .unset, .unset] [(.double (FP.dadd (own_v0_7 p0_2) (FP.i2d (own_v0_1 p0_0 p0_1)))), (.double (FP.dmul (4612136378390124954 : UInt64) (FP.i2d (own_v0_1 p0_0 p0_1))))])) _
    refine XS.ddivS Xk0_7.here hx rfl (hb hby at_126) rfl nn126 rfl ?_
    show Steps p.tables e below (Tk0_7.setTop (mkF m 127 #[.val (.int p0_0), .val (.int p0_1), .val (.int p0_2), .val (.int p0_3), .val (.int (own_v0_0 p0_0)), .val (.int (own_v0_1 p0_0 p0_1)), .val (.int (p0_2 &&& (15 : Int32))), .val (.double (own_v0_2 p0_2)), .second, .val (.double (own_v0_3 p0_0 p0_2)), .second, .val (.int (own_v0_4 p0_0 p0_3)), .val (.ref bn0_2), .val (.double (own_v0_5 p0_0 p0_1 p0_2)), .second, .val (.double (own_v0_6 p0_0 p0_1 p0_2 p0_3)), .second, .val (.double (own_v0_7 p0_2)), .second, .unset, .unset] [(.double (FP.ddiv (FP.dmul (4612136378390124954 : UInt64) (FP.i2d (own_v0_1 p0_0 p0_1))) (FP.dadd (own_v0_7 p0_2) (FP.i2d (own_v0_1 p0_0 p0_1)))))])) _
    refine XS.dstore Xk0_7.here hx rfl (hb hby at_127) rfl (l' := #[.val (.int p0_0), .val (.int p0_1), .val (.int p0_2), .val (.int p0_3), .val (.int (own_v0_0 p0_0)), .val (.int (own_v0_1 p0_0 p0_1)), .val (.int (p0_2 &&& (15 : Int32))), .val (.double (own_v0_2 p0_2)), .second, .val (.double (own_v0_3 p0_0 p0_2)), .second, .val (.int (own_v0_4 p0_0 p0_3)), .val (.ref bn0_2), .val (.double (own_v0_5 p0_0 p0_1 p0_2)), .second, .val (.double (own_v0_6 p0_0 p0_1 p0_2 p0_3)), .second, .val (.double (own_v0_7 p0_2)), .second, .val (.double (own_v0_8 p0_0 p0_1 p0_2)), .second]) rfl ?_
    show Steps p.tables e below (Tk0_7.setTop (mkF m 129 #[.val (.int p0_0), .val (.int p0_1), .val (.int p0_2), .val (.int p0_3), .val (.int (own_v0_0 p0_0)), .val (.int (own_v0_1 p0_0 p0_1)), .val (.int (p0_2 &&& (15 : Int32))), .val (.double (own_v0_2 p0_2)), .second, .val (.double (own_v0_3 p0_0 p0_2)), .second, .val (.int (own_v0_4 p0_0 p0_3)), .val (.ref bn0_2), .val (.double (own_v0_5 p0_0 p0_1 p0_2)), .second, .val (.double (own_v0_6 p0_0 p0_1 p0_2 p0_3)), .second, .val (.double (own_v0_7 p0_2)), .second, .val (.double (own_v0_8 p0_0 p0_1 p0_2)), .second] [])) _
    refine XS.dload Xk0_7.here hx rfl (hb hby at_129) rfl ?_
    show Steps p.tables e below (Tk0_7.setTop (mkF m 131 #[.val (.int p0_0), .val (.int p0_1), .val (.int p0_2), .val (.int p0_3), .val (.int (own_v0_0 p0_0)), .val (.int (own_v0_1 p0_0 p0_1)), .val (.int (p0_2 &&& (15 : Int32))), .val (.double (own_v0_2 p0_2)), .second, .val (.double (own_v0_3 p0_0 p0_2)), .second, .val (.int (own_v0_4 p0_0 p0_3)), .val (.ref bn0_2), .val (.double (own_v0_5 p0_0 p0_1 p0_2)), .second, .val (.double (own_v0_6 p0_0 p0_1 p0_2 p0_3)), .second, .val (.double (own_v0_7 p0_2)), .second, .val (.double (own_v0_8 p0_0 p0_1 p0_2)), .second] [(.double (own_v0_5 p0_0 p0_1 p0_2))])) _
    refine XS.dload Xk0_7.here hx rfl (hb hby at_131) rfl ?_
    show Steps p.tables e below (Tk0_7.setTop (mkF m 133 #[.val (.int p0_0), .val (.int p0_1), .val (.int p0_2), .val (.int p0_3), .val (.int (own_v0_0 p0_0)), .val (.int (own_v0_1 p0_0 p0_1)), .val (.int (p0_2 &&& (15 : Int32))), .val (.double (own_v0_2 p0_2)), .second, .val (.double (own_v0_3 p0_0 p0_2)), .second, .val (.int (own_v0_4 p0_0 p0_3)), .val (.ref bn0_2), .val (.double (own_v0_5 p0_0 p0_1 p0_2)), .second, .val (.double (own_v0_6 p0_0 p0_1 p0_2 p0_3)), .second, .val (.double (own_v0_7 p0_2)), .second, .val (.double (own_v0_8 p0_0 p0_1 p0_2)), .second] [(.double (own_v0_8 p0_0 p0_1 p0_2)), (.double (own_v0_5 p0_0 p0_1 p0_2))])) _
    refine XS.dcmpS Xk0_7.here hx rfl (hb hby at_133) rfl rfl ?_
    show Steps p.tables e below (Tk0_7.setTop (mkF m 134 #[.val (.int p0_0), .val (.int p0_1), .val (.int p0_2), .val (.int p0_3), .val (.int (own_v0_0 p0_0)), .val (.int (own_v0_1 p0_0 p0_1)), .val (.int (p0_2 &&& (15 : Int32))), .val (.double (own_v0_2 p0_2)), .second, .val (.double (own_v0_3 p0_0 p0_2)), .second, .val (.int (own_v0_4 p0_0 p0_3)), .val (.ref bn0_2), .val (.double (own_v0_5 p0_0 p0_1 p0_2)), .second, .val (.double (own_v0_6 p0_0 p0_1 p0_2 p0_3)), .second, .val (.double (own_v0_7 p0_2)), .second, .val (.double (own_v0_8 p0_0 p0_1 p0_2)), .second] [(.int (cmpValue (FP.dcmp (own_v0_5 p0_0 p0_1 p0_2) (own_v0_8 p0_0 p0_1 p0_2)) .l))])) _
    refine XS.ifNo Xk0_7.here hx rfl (hb hby at_134) rfl (XT.i0_ne_f hc134) ?_
    show Steps p.tables e below (Tk0_7.setTop (mkF m 137 #[.val (.int p0_0), .val (.int p0_1), .val (.int p0_2), .val (.int p0_3), .val (.int (own_v0_0 p0_0)), .val (.int (own_v0_1 p0_0 p0_1)), .val (.int (p0_2 &&& (15 : Int32))), .val (.double (own_v0_2 p0_2)), .second, .val (.double (own_v0_3 p0_0 p0_2)), .second, .val (.int (own_v0_4 p0_0 p0_3)), .val (.ref bn0_2), .val (.double (own_v0_5 p0_0 p0_1 p0_2)), .second, .val (.double (own_v0_6 p0_0 p0_1 p0_2 p0_3)), .second, .val (.double (own_v0_7 p0_2)), .second, .val (.double (own_v0_8 p0_0 p0_1 p0_2)), .second] [])) _
    refine XS.dload Xk0_7.here hx rfl (hb hby at_137) rfl ?_
    show Steps p.tables e below (Tk0_7.setTop (mkF m 139 #[.val (.int p0_0), .val (.int p0_1), .val (.int p0_2), .val (.int p0_3), .val (.int (own_v0_0 p0_0)), .val (.int (own_v0_1 p0_0 p0_1)), .val (.int (p0_2 &&& (15 : Int32))), .val (.double (own_v0_2 p0_2)), .second, .val (.double (own_v0_3 p0_0 p0_2)), .second, .val (.int (own_v0_4 p0_0 p0_3)), .val (.ref bn0_2), .val (.double (own_v0_5 p0_0 p0_1 p0_2)), .second, .val (.double (own_v0_6 p0_0 p0_1 p0_2 p0_3)), .second, .val (.double (own_v0_7 p0_2)), .second, .val (.double (own_v0_8 p0_0 p0_1 p0_2)), .second] [(.double (own_v0_6 p0_0 p0_1 p0_2 p0_3))])) _
    refine XS.dload Xk0_7.here hx rfl (hb hby at_139) rfl ?_
    show Steps p.tables e below (Tk0_7.setTop (mkF m 141 #[.val (.int p0_0), .val (.int p0_1), .val (.int p0_2), .val (.int p0_3), .val (.int (own_v0_0 p0_0)), .val (.int (own_v0_1 p0_0 p0_1)), .val (.int (p0_2 &&& (15 : Int32))), .val (.double (own_v0_2 p0_2)), .second, .val (.double (own_v0_3 p0_0 p0_2)), .second, .val (.int (own_v0_4 p0_0 p0_3)), .val (.ref bn0_2), .val (.double (own_v0_5 p0_0 p0_1 p0_2)), .second, .val (.double (own_v0_6 p0_0 p0_1 p0_2 p0_3)), .second, .val (.double (own_v0_7 p0_2)), .second, .val (.double (own_v0_8 p0_0 p0_1 p0_2)), .second] [(.double (own_v0_5 p0_0 p0_1 p0_2)), (.double (own_v0_6 p0_0 p0_1 p0_2 p0_3))])) _
    refine XS.dcmpS Xk0_7.here hx rfl (hb hby at_141) rfl rfl ?_
    show Steps p.tables e below (Tk0_7.setTop (mkF m 142 #[.val (.int p0_0), .val (.int p0_1), .val (.int p0_2), .val (.int p0_3), .val (.int (own_v0_0 p0_0)), .val (.int (own_v0_1 p0_0 p0_1)), .val (.int (p0_2 &&& (15 : Int32))), .val (.double (own_v0_2 p0_2)), .second, .val (.double (own_v0_3 p0_0 p0_2)), .second, .val (.int (own_v0_4 p0_0 p0_3)), .val (.ref bn0_2), .val (.double (own_v0_5 p0_0 p0_1 p0_2)), .second, .val (.double (own_v0_6 p0_0 p0_1 p0_2 p0_3)), .second, .val (.double (own_v0_7 p0_2)), .second, .val (.double (own_v0_8 p0_0 p0_1 p0_2)), .second] [(.int (cmpValue (FP.dcmp (own_v0_6 p0_0 p0_1 p0_2 p0_3) (own_v0_5 p0_0 p0_1 p0_2)) .g))])) _
    refine XS.ifNo Xk0_7.here hx rfl (hb hby at_142) rfl (XT.i0_gt_f hc142) ?_
    show Steps p.tables e below (Tk0_7.setTop (mkF m 145 #[.val (.int p0_0), .val (.int p0_1), .val (.int p0_2), .val (.int p0_3), .val (.int (own_v0_0 p0_0)), .val (.int (own_v0_1 p0_0 p0_1)), .val (.int (p0_2 &&& (15 : Int32))), .val (.double (own_v0_2 p0_2)), .second, .val (.double (own_v0_3 p0_0 p0_2)), .second, .val (.int (own_v0_4 p0_0 p0_3)), .val (.ref bn0_2), .val (.double (own_v0_5 p0_0 p0_1 p0_2)), .second, .val (.double (own_v0_6 p0_0 p0_1 p0_2 p0_3)), .second, .val (.double (own_v0_7 p0_2)), .second, .val (.double (own_v0_8 p0_0 p0_1 p0_2)), .second] [])) _
    refine XS.dload Xk0_7.here hx rfl (hb hby at_145) rfl ?_
    show Steps p.tables e below (Tk0_7.setTop (mkF m 147 #[.val (.int p0_0), .val (.int p0_1), .val (.int p0_2), .val (.int p0_3), .val (.int (own_v0_0 p0_0)), .val (.int (own_v0_1 p0_0 p0_1)), .val (.int (p0_2 &&& (15 : Int32))), .val (.double (own_v0_2 p0_2)), .second, .val (.double (own_v0_3 p0_0 p0_2)), .second, .val (.int (own_v0_4 p0_0 p0_3)), .val (.ref bn0_2), .val (.double (own_v0_5 p0_0 p0_1 p0_2)), .second, .val (.double (own_v0_6 p0_0 p0_1 p0_2 p0_3)), .second, .val (.double (own_v0_7 p0_2)), .second, .val (.double (own_v0_8 p0_0 p0_1 p0_2)), .second] [(.double (own_v0_6 p0_0 p0_1 p0_2 p0_3))])) _
    refine XS.dconst0 Xk0_7.here hx rfl (hb hby at_147) (v := (0 : UInt64)) (by decide +kernel) ?_
    show Steps p.tables e below (Tk0_7.setTop (mkF m 148 #[.val (.int p0_0), .val (.int p0_1), .val (.int p0_2), .val (.int p0_3), .val (.int (own_v0_0 p0_0)), .val (.int (own_v0_1 p0_0 p0_1)), .val (.int (p0_2 &&& (15 : Int32))), .val (.double (own_v0_2 p0_2)), .second, .val (.double (own_v0_3 p0_0 p0_2)), .second, .val (.int (own_v0_4 p0_0 p0_3)), .val (.ref bn0_2), .val (.double (own_v0_5 p0_0 p0_1 p0_2)), .second, .val (.double (own_v0_6 p0_0 p0_1 p0_2 p0_3)), .second, .val (.double (own_v0_7 p0_2)), .second, .val (.double (own_v0_8 p0_0 p0_1 p0_2)), .second] [(.double (0 : UInt64)), (.double (own_v0_6 p0_0 p0_1 p0_2 p0_3))])) _
    refine XS.dcmpS Xk0_7.here hx rfl (hb hby at_148) rfl rfl ?_
    show Steps p.tables e below (Tk0_7.setTop (mkF m 149 #[.val (.int p0_0), .val (.int p0_1), .val (.int p0_2), .val (.int p0_3), .val (.int (own_v0_0 p0_0)), .val (.int (own_v0_1 p0_0 p0_1)), .val (.int (p0_2 &&& (15 : Int32))), .val (.double (own_v0_2 p0_2)), .second, .val (.double (own_v0_3 p0_0 p0_2)), .second, .val (.int (own_v0_4 p0_0 p0_3)), .val (.ref bn0_2), .val (.double (own_v0_5 p0_0 p0_1 p0_2)), .second, .val (.double (own_v0_6 p0_0 p0_1 p0_2 p0_3)), .second, .val (.double (own_v0_7 p0_2)), .second, .val (.double (own_v0_8 p0_0 p0_1 p0_2)), .second] [(.int (cmpValue (FP.dcmp (own_v0_6 p0_0 p0_1 p0_2 p0_3) (0 : UInt64)) .l))])) _
    refine XS.ifNo Xk0_7.here hx rfl (hb hby at_149) rfl (XT.i0_le_f hc149) ?_
    show Steps p.tables e below (Tk0_7.setTop (mkF m 152 #[.val (.int p0_0), .val (.int p0_1), .val (.int p0_2), .val (.int p0_3), .val (.int (own_v0_0 p0_0)), .val (.int (own_v0_1 p0_0 p0_1)), .val (.int (p0_2 &&& (15 : Int32))), .val (.double (own_v0_2 p0_2)), .second, .val (.double (own_v0_3 p0_0 p0_2)), .second, .val (.int (own_v0_4 p0_0 p0_3)), .val (.ref bn0_2), .val (.double (own_v0_5 p0_0 p0_1 p0_2)), .second, .val (.double (own_v0_6 p0_0 p0_1 p0_2 p0_3)), .second, .val (.double (own_v0_7 p0_2)), .second, .val (.double (own_v0_8 p0_0 p0_1 p0_2)), .second] [])) _
    refine XS.iconst Xk0_7.here hx rfl (hb hby at_152) ?_
    show Steps p.tables e below (Tk0_7.setTop (mkF m 153 #[.val (.int p0_0), .val (.int p0_1), .val (.int p0_2), .val (.int p0_3), .val (.int (own_v0_0 p0_0)), .val (.int (own_v0_1 p0_0 p0_1)), .val (.int (p0_2 &&& (15 : Int32))), .val (.double (own_v0_2 p0_2)), .second, .val (.double (own_v0_3 p0_0 p0_2)), .second, .val (.int (own_v0_4 p0_0 p0_3)), .val (.ref bn0_2), .val (.double (own_v0_5 p0_0 p0_1 p0_2)), .second, .val (.double (own_v0_6 p0_0 p0_1 p0_2 p0_3)), .second, .val (.double (own_v0_7 p0_2)), .second, .val (.double (own_v0_8 p0_0 p0_1 p0_2)), .second] [(.int (1 : Int32))])) _
    refine XS.goto Xk0_7.here hx rfl (pc0 := 153) (pc' := 157) rfl (hb hby at_153) (by decide) (by decide) ?_
    show Steps p.tables e below (Tk0_7.setTop (mkF m 157 #[.val (.int p0_0), .val (.int p0_1), .val (.int p0_2), .val (.int p0_3), .val (.int (own_v0_0 p0_0)), .val (.int (own_v0_1 p0_0 p0_1)), .val (.int (p0_2 &&& (15 : Int32))), .val (.double (own_v0_2 p0_2)), .second, .val (.double (own_v0_3 p0_0 p0_2)), .second, .val (.int (own_v0_4 p0_0 p0_3)), .val (.ref bn0_2), .val (.double (own_v0_5 p0_0 p0_1 p0_2)), .second, .val (.double (own_v0_6 p0_0 p0_1 p0_2 p0_3)), .second, .val (.double (own_v0_7 p0_2)), .second, .val (.double (own_v0_8 p0_0 p0_1 p0_2)), .second] [(.int (1 : Int32))])) _
    exact retN Xk0_7 hx (t := .boolean) Bd.returns (by simp) (hb hby at_157) hr
  · show own_Q0 Z p0_0 p0_1 p0_2 p0_3 h0 n0 _ Tk0_7.heap _
    rw [ek0_7]
    exact ⟨rfl, Nk0_7⟩
theorem own_dl (x : Int32) : 1 ≤ (own_v0_0 x).toInt ∧ (own_v0_0 x).toInt ≤ 2147483647 := by
  have h2 : (x &&& (2147483647 : Int32)).toInt = x.toInt % 2 ^ 31 := Jvm.Kit.i32_mask _ _ (k := 31) (by decide) (by decide)
  have e1 : (1 : Int32).toInt = 1 := by decide
  unfold own_v0_0 own_j1_0; split
  · rename_i h; rw [Int32.lt_iff_toInt_lt, e1] at h; rw [h2] at h ⊢; omega
  · rw [e1]; omega
theorem own_msk (x : Int32) : 0 ≤ (x &&& (2147483647 : Int32)).toInt := by
  rw [Jvm.Kit.i32_mask _ _ (k := 31) (by decide) (by decide)]; omega
theorem own_f (x y : Int32) : 1 ≤ (own_v0_1 x y).toInt ∧ (own_v0_1 x y).toInt ≤ (own_v0_0 x).toInt := by
  have hd := own_dl x; have hm := own_msk y
  have e1 : (1 : Int32).toInt = 1 := by decide
  have r : ((y &&& (2147483647 : Int32)) - ((y &&& (2147483647 : Int32)) / (own_v0_0 x)) * (own_v0_0 x)).toInt = (y &&& (2147483647 : Int32)).toInt % (own_v0_0 x).toInt := by
    rw [rem_toInt, Int.tmod_eq_emod_of_nonneg hm]
  have b0 := Int.emod_nonneg (y &&& (2147483647 : Int32)).toInt (show (own_v0_0 x).toInt ≠ 0 by omega)
  have b1 := Int.emod_lt_of_pos (y &&& (2147483647 : Int32)).toInt (show 0 < (own_v0_0 x).toInt by omega)
  unfold own_v0_1
  rw [Jvm.Kit.i32_add (by rw [e1, r]; omega) (by rw [e1, r]; omega), e1, r]; omega
theorem own_gap (x : Int32) : (((2147483647 : Int32) - (own_v0_0 x)) + (1 : Int32)).toInt = 2147483648 - (own_v0_0 x).toInt := by
  have hd := own_dl x
  have e1 : (1 : Int32).toInt = 1 := by decide
  have e2 : (2147483647 : Int32).toInt = 2147483647 := by decide
  have s : ((2147483647 : Int32) - (own_v0_0 x)).toInt = 2147483647 - (own_v0_0 x).toInt := by rw [Jvm.Kit.i32_sub (by rw [e2]; omega) (by rw [e2]; omega), e2]
  rw [Jvm.Kit.i32_add (by rw [s, e1]; omega) (by rw [s, e1]; omega), s, e1]; omega
theorem own_d2 (x w : Int32) : (own_v0_0 x).toInt ≤ (own_v0_4 x w).toInt ∧ (own_v0_4 x w).toInt ≤ 2147483647 := by
  have hd := own_dl x; have hm := own_msk w; have hg := own_gap x
  have r : ((w &&& (2147483647 : Int32)) - ((w &&& (2147483647 : Int32)) / (((2147483647 : Int32) - (own_v0_0 x)) + (1 : Int32))) * (((2147483647 : Int32) - (own_v0_0 x)) + (1 : Int32))).toInt = (w &&& (2147483647 : Int32)).toInt % (2147483648 - (own_v0_0 x).toInt) := by
    rw [rem_toInt, Int.tmod_eq_emod_of_nonneg hm, hg]
  have b0 := Int.emod_nonneg (w &&& (2147483647 : Int32)).toInt (show 2147483648 - (own_v0_0 x).toInt ≠ 0 by omega)
  have b1 := Int.emod_lt_of_pos (w &&& (2147483647 : Int32)).toInt (show 0 < 2147483648 - (own_v0_0 x).toInt by omega)
  unfold own_v0_4
  rw [Jvm.Kit.i32_add (by rw [r]; omega) (by rw [r]; omega), r]; omega
theorem own_k075 : own_at 3 1072 (4604930618986332160 : UInt64) := ⟨by rw [FP.Core.fin_bits]; decide, by decide +kernel⟩
theorem own_k025 : own_at 1 1072 (4598175219545276416 : UInt64) := ⟨by rw [FP.Core.fin_bits]; decide, by decide +kernel⟩
theorem own_k256 : own_at 1 (1074 + 8) (4643211215818981376 : UInt64) := ⟨by rw [FP.Core.fin_bits]; decide, by decide +kernel⟩
theorem own_b075 : own_bd 1 (4604930618986332160 : UInt64) := ⟨by rw [FP.Core.fin_bits]; decide, by decide +kernel, by decide +kernel⟩
theorem own_b025 : own_bd 1 (4598175219545276416 : UInt64) := ⟨by rw [FP.Core.fin_bits]; decide, by decide +kernel, by decide +kernel⟩
theorem own_b12 : own_bd 2 (4608083138725491507 : UInt64) := ⟨by rw [FP.Core.fin_bits]; decide, by decide +kernel, by decide +kernel⟩
theorem own_b22 : own_bd 3 (4612136378390124954 : UInt64) := ⟨by rw [FP.Core.fin_bits]; decide, by decide +kernel, by decide +kernel⟩
theorem own_b22' : own_U ≤ own_zv (4612136378390124954 : UInt64) := by decide +kernel
theorem own_k1 : own_is 1 (4607182418800017408 : UInt64) := ⟨by rw [FP.Core.fin_bits]; decide, by decide +kernel⟩
theorem own_pw : ∀ n : Fin 16, ((1 : Int32) <<< ((Int32.ofNat n.val) &&& 31)).toInt = (((2 ^ n.val : Nat) : Int)) := by decide
theorem own_ex (x : Int32) : ∃ n : Fin 16, x &&& (15 : Int32) = Int32.ofNat n.val := by
  have h2 : (x &&& (15 : Int32)).toInt = x.toInt % 2 ^ 4 := Jvm.Kit.i32_mask _ _ (k := 4) (by decide) (by decide)
  have b0 : 0 ≤ x.toInt % 2 ^ 4 := by omega
  have b1 : x.toInt % 2 ^ 4 < 16 := by omega
  generalize x.toInt % 2 ^ 4 = w at *
  obtain ⟨k, hk⟩ : ∃ k : Nat, w = (k : Int) := ⟨w.toNat, by omega⟩
  have k1 : k < 16 := by omega
  refine ⟨⟨k, k1⟩, Int32.toInt_inj.mp ?_⟩
  rw [h2, hk]; show (k : Int) = (Int32.ofNat k).toInt; rw [Int32.toInt_ofNat_of_lt (by omega)]
theorem own_t (z : Int32) : ∃ n : Fin 16, own_at 1 (1066 + n.val) (own_v0_2 z) := by
  obtain ⟨n, h⟩ := own_ex z
  refine ⟨n, ?_⟩
  have hi := own_is_i2d ((1 : Int32) <<< ((z &&& (15 : Int32)) &&& 31))
  rw [h, own_pw n] at hi
  have hn := n.isLt
  have ha : own_at 1 (1066 + n.val + 8) (FP.i2d ((1 : Int32) <<< ((z &&& (15 : Int32)) &&& 31))) := by
    rw [h, show 1066 + n.val + 8 = 1074 + n.val by omega]
    exact own_at_dn (c := 1) (by rw [Int.one_mul]; exact hi)
  exact own_at_divp ha own_k256 (by decide) (by omega)
section A
variable (x z : Int32)
theorem own_av {n : Fin 16} (ht : own_at 1 (1066 + n.val) (own_v0_2 z)) : own_at (own_v0_0 x).toInt (1082 - n.val) (own_v0_3 x z) := by
  have hd := own_dl x; have hn := n.isLt
  refine own_at_div (own_at_is (own_is_i2d _)) ht (by decide) (1082 - n.val) ?_ (by omega) (by omega)
  rw [Int.mul_one, show 1082 - n.val + (1066 + n.val) = 1074 + 1074 by omega]
theorem own_avp : FP.Core.DFin (own_v0_3 x z) ∧ 0 < own_zv (own_v0_3 x z) ∧ own_U ≤ 128 * own_zv (own_v0_3 x z) := by
  obtain ⟨n, ht⟩ := own_t z
  have ha := own_av x z ht; have hd := own_dl x; have hn := n.isLt
  have p : 0 < ((2 ^ (1082 - n.val) : Nat) : Int) := Int.natCast_pos.mpr (Nat.two_pow_pos _)
  have l : own_U ≤ 128 * ((2 ^ (1082 - n.val) : Nat) : Int) := by
    rw [own_U_eq, show (128 : Int) = ((2 ^ 7 : Nat) : Int) from rfl, ← Int.natCast_mul, ← Nat.pow_add]
    exact Int.ofNat_le.mpr (Nat.pow_le_pow_right (by decide) (by omega))
  have q : ((2 ^ (1082 - n.val) : Nat) : Int) ≤ own_zv (own_v0_3 x z) := by
    rw [ha.2]
    have := Int.mul_le_mul_of_nonneg_right hd.1 (Int.le_of_lt p)
    rw [Int.one_mul] at this; exact this
  exact ⟨ha.1, by omega, by omega⟩
end A
section B
variable (x z d : Int32)
theorem own_m75 (h0 : 1 ≤ d.toInt) : own_at (3 * d.toInt) 1072 (FP.dmul (4604930618986332160 : UInt64) (FP.i2d d)) := by
  have b2 := Int32.toInt_lt d
  exact own_at_mul own_k075 (own_at_is (own_is_i2d d)) 1072 (by decide) (by omega) (by decide)
theorem own_m75b (h0 : 1 ≤ d.toInt) : own_bd 2147483648 (FP.dmul (4604930618986332160 : UInt64) (FP.i2d d)) := by
  have b2 := Int32.toInt_lt d
  exact own_bd_mul own_b075 (own_bd_is (own_is_i2d d) (by omega) (X := 2147483648) (by omega)) (by decide) (by decide) (by decide)
theorem own_q (h0 : 1 ≤ d.toInt) : own_bd 274877906944 (FP.ddiv (FP.dmul (4604930618986332160 : UInt64) (FP.i2d d)) (own_v0_3 x z)) := by
  obtain ⟨f, p, l⟩ := own_avp x z
  exact own_bd_div (own_m75b d h0) f p l (by decide) (by decide) (by decide)
theorem own_s (h0 : 1 ≤ d.toInt) : own_bd 274877906945 (FP.dadd (4598175219545276416 : UInt64) (FP.ddiv (FP.dmul (4604930618986332160 : UInt64) (FP.i2d d)) (own_v0_3 x z))) := own_bd_add own_b025 (own_q x z d h0) (by decide) (by decide) (by decide)
theorem own_k (h0 : 1 ≤ d.toInt) : own_bd 549755813890 (own_r7_0 d (own_v0_3 x z)) := own_bd_mul own_b12 (own_s x z d h0) (by decide) (by decide) (by decide)
end B
theorem own_ff {f : Int32} (h0 : 1 ≤ f.toInt) : own_bd 2147483648 (FP.i2d f) := own_bd_is (own_is_i2d f) (by omega) (by have := Int32.toInt_lt f; omega)
theorem own_ff1 {f : Int32} (h0 : 1 ≤ f.toInt) : own_U ≤ own_zv (FP.i2d f) := by
  rw [(own_is_i2d f).2]; have := Int.mul_le_mul_of_nonneg_right h0 (Int.le_of_lt own_U_pos); rw [Int.one_mul] at this; exact this
/-- the numerator -/
theorem own_num {f : Int32} (h0 : 1 ≤ f.toInt) : own_bd 6442450944 (FP.dmul (4612136378390124954 : UInt64) (FP.i2d f)) ∧ own_U ≤ own_zv (FP.dmul (4612136378390124954 : UInt64) (FP.i2d f)) := by
  have hb := own_bd_mul own_b22 (own_ff h0) (by decide) (by decide) (by decide)
  refine ⟨hb, ?_⟩
  have hr := own_dmul_rnd own_b22.1 (own_ff h0).1
  have := hr.2.1 _ own_k1.1.ne_nan (by
    rw [own_k1.2, Int.one_mul]
    exact Int.mul_le_mul own_b22' (own_ff1 h0) (Int.le_of_lt own_U_pos) (by have := own_b22.2.1; exact this))
  rw [own_k1.2, Int.one_mul] at this; exact this
/-- the denominator -/
theorem own_den {k : UInt64} {f : Int32} (hk : own_bd 549755813890 k) (h0 : 1 ≤ f.toInt) : own_bd 551903297538 (FP.dadd k (FP.i2d f)) ∧ own_U ≤ own_zv (FP.dadd k (FP.i2d f)) := by
  refine ⟨own_bd_add hk (own_ff h0) (by decide) (by decide) (by decide), ?_⟩
  have hr := own_dadd_rnd hk.1 (own_ff h0).1
  have := hr.2.1 _ own_k1.1.ne_nan (by
    rw [own_k1.2, Int.one_mul, Int.mul_one]; have := hk.2.1; have := own_ff1 h0; omega)
  rw [own_k1.2, Int.one_mul] at this; exact this
theorem own_quo {k : UInt64} {f : Int32} (hk : own_bd 549755813890 k) (h0 : 1 ≤ f.toInt) : own_bd 6442450944 (own_r8_0 f k) := by
  obtain ⟨n1, n2⟩ := own_num h0; obtain ⟨d1, d2⟩ := own_den hk h0
  have hU := own_U_pos
  have := own_bd_div n1 d1.1 (by omega) (m := 1) (by omega) (by decide) (by decide) (by decide)
  exact this
theorem own_e40 : ((2 ^ 1034 : Nat) : Int) * 1099511627776 = own_U := by rw [own_U_eq]; decide +kernel
theorem own_quop {k : UInt64} {f : Int32} (hk : own_bd 549755813890 k) (h0 : 1 ≤ f.toInt) : 0 < own_zv (own_r8_0 f k) := by
  obtain ⟨n1, n2⟩ := own_num h0; obtain ⟨d1, d2⟩ := own_den hk h0
  have hU := own_U_pos
  have hr := own_ddiv_rnd n1.1 d1.1 (by omega)
  rw [if_pos (by omega), Int.natAbs_of_nonneg (by omega)] at hr
  obtain ⟨V, vf, vz⟩ := own_rep 1 1034 (by decide) (by decide)
  have := hr.2.1 V vf.ne_nan (by
    rw [vz, Int.one_mul]
    have a : ((2 ^ 1034 : Nat) : Int) * own_zv (FP.dadd k (FP.i2d f)) ≤ ((2 ^ 1034 : Nat) : Int) * (1099511627776 * own_U) := Int.mul_le_mul_of_nonneg_left (by have := d1.2.2; omega) (Int.natCast_nonneg _)
    have e : ((2 ^ 1034 : Nat) : Int) * (1099511627776 * own_U) = own_U * own_U := by
      rw [← Int.mul_assoc, own_e40]
    have c : own_U * own_U ≤ own_zv (FP.dmul (4612136378390124954 : UInt64) (FP.i2d f)) * own_U := Int.mul_le_mul_of_nonneg_right n2 (Int.le_of_lt hU)
    omega)
  rw [vz, Int.one_mul] at this
  have p : 0 < ((2 ^ 1034 : Nat) : Int) := Int.natCast_pos.mpr (Nat.two_pow_pos _)
  show 0 < own_zv (FP.ddiv _ _)
  omega
/-- the norm grows with the length -/
theorem own_kmono (x z d d' : Int32) (h0 : 1 ≤ d.toInt) (h : d.toInt ≤ d'.toInt) : own_zv (own_r7_0 d (own_v0_3 x z)) ≤ own_zv (own_r7_0 d' (own_v0_3 x z)) := by
  have h0' : 1 ≤ d'.toInt := by omega
  obtain ⟨f, p, l⟩ := own_avp x z
  have m1 := own_m75 d h0; have m2 := own_m75 d' h0'
  have a1 := own_q x z d h0; have a2 := own_q x z d' h0'
  have s1 := own_s x z d h0; have s2 := own_s x z d' h0'
  have k1 := own_k x z d h0; have k2 := own_k x z d' h0'
  have mm : own_zv (FP.dmul (4604930618986332160 : UInt64) (FP.i2d d)) ≤ own_zv (FP.dmul (4604930618986332160 : UInt64) (FP.i2d d')) := by
    rw [m1.2, m2.2]; exact Int.mul_le_mul_of_nonneg_right (by omega) (Int.natCast_nonneg _)
  have n1 := (own_m75b d h0).2.1; have n2 := (own_m75b d' h0').2.1
  have q := own_rr_mono (own_rr_ddiv m1.1 f (by omega)) (own_rr_ddiv m2.1 f (by omega)) a1.1 a2.1 (Nat.mul_le_mul_right _ (Nat.mul_le_mul_right _ (by omega)))
  have a10 := a1.2.1; have a20 := a2.2.1
  have c0 := own_b025.2.1
  have r := own_rr_mono (own_rr_dadd own_b025.1 a1.1) (own_rr_dadd own_b025.1 a2.1) s1.1 s2.1 (by omega)
  have s10 := s1.2.1; have s20 := s2.2.1
  have u := own_rr_mono (own_rr_dmul own_b12.1 s1.1) (own_rr_dmul own_b12.1 s2.1) k1.1 k2.1 (Nat.mul_le_mul_right _ (Nat.mul_le_mul_left _ (by omega)))
  have k10 := k1.2.1; have k20 := k2.2.1
  show own_zv (FP.dmul _ _) ≤ own_zv (FP.dmul _ _)
  unfold own_r7_0 at k10 k20
  omega
/-- the factor falls as the norm grows -/
theorem own_fmono {k k' : UInt64} {f : Int32} (hk : own_bd 549755813890 k) (hk' : own_bd 549755813890 k') (h0 : 1 ≤ f.toInt) (h : own_zv k ≤ own_zv k') : own_zv (own_r8_0 f k') ≤ own_zv (own_r8_0 f k) := by
  obtain ⟨n1, n2⟩ := own_num h0; obtain ⟨d1, d2⟩ := own_den hk h0; obtain ⟨e1, e2⟩ := own_den hk' h0
  have hU := own_U_pos
  have q := own_quo hk h0; have q' := own_quo hk' h0
  have f0 := (own_ff h0).2.1; have k0 := hk.2.1; have k0' := hk'.2.1
  have dd := own_rr_mono (own_rr_dadd hk.1 (own_ff h0).1) (own_rr_dadd hk'.1 (own_ff h0).1) d1.1 e1.1 (by omega)
  have r := own_rr_mono (own_rr_ddiv n1.1 e1.1 (by omega)) (own_rr_ddiv n1.1 d1.1 (by omega)) q'.1 q.1 (Nat.mul_le_mul_left _ dd)
  have q0 := q.2.1; have q0' := q'.2.1
  unfold own_r8_0 at q0 q0' ⊢
  omega
section X
variable (p0_0 p0_1 p0_2 p0_3 : Int32)
theorem own_ne0 {a : Int32} (h : a.toInt ≠ 0) : a ≠ 0 := fun q => h (by rw [q]; rfl)
theorem own_x_hz17 : (own_v0_0 p0_0) ≠ 0 := own_ne0 (by have := own_dl p0_0; omega)
theorem own_x_nn35 : NoNaN64 (FP.ddiv (FP.i2d ((1 : Int32) <<< ((p0_2 &&& (15 : Int32)) &&& 31))) (4643211215818981376 : UInt64)) := by
  obtain ⟨n, h⟩ := own_t p0_2; exact own_at_nn h
theorem own_x_nn43 : NoNaN64 (FP.ddiv (FP.i2d (own_v0_0 p0_0)) (own_v0_2 p0_2)) := own_fin_nn (own_avp p0_0 p0_2).1
theorem own_x_hz59 : (((2147483647 : Int32) - (own_v0_0 p0_0)) + (1 : Int32)) ≠ 0 := own_ne0 (by rw [own_gap]; have := own_dl p0_0; omega)
theorem own_x_c70_hc7 : ¬ ((1 : Int64) < (1 : Int64)) := by decide
theorem own_x_c70_hc27 : ¬ ((cmpValue (FP.dcmp (own_v0_3 p0_0 p0_2) (0 : UInt64)) .l) < (0 : Int32)) := by
  obtain ⟨f, p, l⟩ := own_avp p0_0 p0_2
  exact own_cmp_ge f.ne_nan own_is_0.1.ne_nan (by rw [own_is_0.2, Int.zero_mul]; omega) _
theorem own_x_c70_fin31 : Fin64 (own_v0_3 p0_0 p0_2) := own_fin64 (own_avp p0_0 p0_2).1
theorem own_x_c81_hc2 : ¬ ((own_v0_1 p0_0 p0_1) < (1 : Int32)) := by
  have := own_f p0_0 p0_1; rw [Int32.lt_iff_toInt_lt]; show ¬ _ < 1; omega
theorem own_x_c81_hc7 : ¬ ((own_v0_0 p0_0) < (own_v0_1 p0_0 p0_1)) := by
  have := own_f p0_0 p0_1; rw [Int32.lt_iff_toInt_lt]; omega
theorem own_x_c81_c28_nn11 : NoNaN64 (FP.dmul (4604930618986332160 : UInt64) (FP.i2d (own_v0_0 p0_0))) := own_at_nn (own_m75 _ (own_dl p0_0).1)
theorem own_x_c81_c28_nn16 : NoNaN64 (FP.ddiv (FP.dmul (4604930618986332160 : UInt64) (FP.i2d (own_v0_0 p0_0))) (own_v0_3 p0_0 p0_2)) := own_fin_nn (own_q p0_0 p0_2 _ (own_dl p0_0).1).1
theorem own_x_c81_c28_nn17 : NoNaN64 (FP.dadd (4598175219545276416 : UInt64) (FP.ddiv (FP.dmul (4604930618986332160 : UInt64) (FP.i2d (own_v0_0 p0_0))) (own_v0_3 p0_0 p0_2))) := own_fin_nn (own_s p0_0 p0_2 _ (own_dl p0_0).1).1
theorem own_x_c81_c28_nn18 : NoNaN64 (FP.dmul (4608083138725491507 : UInt64) (FP.dadd (4598175219545276416 : UInt64) (FP.ddiv (FP.dmul (4604930618986332160 : UInt64) (FP.i2d (own_v0_0 p0_0))) (own_v0_3 p0_0 p0_2)))) := own_fin_nn (own_k p0_0 p0_2 _ (own_dl p0_0).1).1
theorem own_x_c81_c31_nn5 : NoNaN64 (FP.dmul (4612136378390124954 : UInt64) (FP.i2d (own_v0_1 p0_0 p0_1))) := own_fin_nn (own_num (own_f p0_0 p0_1).1).1.1
theorem own_x_c81_c31_nn9 : NoNaN64 (FP.dadd (own_r7_0 (own_v0_0 p0_0) (own_v0_3 p0_0 p0_2)) (FP.i2d (own_v0_1 p0_0 p0_1))) := own_fin_nn (own_den (own_k p0_0 p0_2 _ (own_dl p0_0).1) (own_f p0_0 p0_1).1).1.1
theorem own_x_c81_c31_nn10 : NoNaN64 (FP.ddiv (FP.dmul (4612136378390124954 : UInt64) (FP.i2d (own_v0_1 p0_0 p0_1))) (FP.dadd (own_r7_0 (own_v0_0 p0_0) (own_v0_3 p0_0 p0_2)) (FP.i2d (own_v0_1 p0_0 p0_1)))) := own_fin_nn (own_quo (own_k p0_0 p0_2 _ (own_dl p0_0).1) (own_f p0_0 p0_1).1).1
theorem own_d20 : 1 ≤ (own_v0_4 p0_0 p0_3).toInt := by have := own_dl p0_0; have := own_d2 p0_0 p0_3; omega
theorem own_x_c92_hc7 : ¬ ((own_v0_4 p0_0 p0_3) < (own_v0_1 p0_0 p0_1)) := by
  have := own_f p0_0 p0_1; have := own_d2 p0_0 p0_3; rw [Int32.lt_iff_toInt_lt]; omega
theorem own_x_c92_c28_nn11 : NoNaN64 (FP.dmul (4604930618986332160 : UInt64) (FP.i2d (own_v0_4 p0_0 p0_3))) := own_at_nn (own_m75 _ (own_d20 p0_0 p0_3))
theorem own_x_c92_c28_nn16 : NoNaN64 (FP.ddiv (FP.dmul (4604930618986332160 : UInt64) (FP.i2d (own_v0_4 p0_0 p0_3))) (own_v0_3 p0_0 p0_2)) := own_fin_nn (own_q p0_0 p0_2 _ (own_d20 p0_0 p0_3)).1
theorem own_x_c92_c28_nn17 : NoNaN64 (FP.dadd (4598175219545276416 : UInt64) (FP.ddiv (FP.dmul (4604930618986332160 : UInt64) (FP.i2d (own_v0_4 p0_0 p0_3))) (own_v0_3 p0_0 p0_2))) := own_fin_nn (own_s p0_0 p0_2 _ (own_d20 p0_0 p0_3)).1
theorem own_x_c92_c28_nn18 : NoNaN64 (FP.dmul (4608083138725491507 : UInt64) (FP.dadd (4598175219545276416 : UInt64) (FP.ddiv (FP.dmul (4604930618986332160 : UInt64) (FP.i2d (own_v0_4 p0_0 p0_3))) (own_v0_3 p0_0 p0_2)))) := own_fin_nn (own_k p0_0 p0_2 _ (own_d20 p0_0 p0_3)).1
theorem own_x_c92_c31_nn9 : NoNaN64 (FP.dadd (own_r7_0 (own_v0_4 p0_0 p0_3) (own_v0_3 p0_0 p0_2)) (FP.i2d (own_v0_1 p0_0 p0_1))) := own_fin_nn (own_den (own_k p0_0 p0_2 _ (own_d20 p0_0 p0_3)) (own_f p0_0 p0_1).1).1.1
theorem own_x_c92_c31_nn10 : NoNaN64 (FP.ddiv (FP.dmul (4612136378390124954 : UInt64) (FP.i2d (own_v0_1 p0_0 p0_1))) (FP.dadd (own_r7_0 (own_v0_4 p0_0 p0_3) (own_v0_3 p0_0 p0_2)) (FP.i2d (own_v0_1 p0_0 p0_1)))) := own_fin_nn (own_quo (own_k p0_0 p0_2 _ (own_d20 p0_0 p0_3)) (own_f p0_0 p0_1).1).1
/-- the law's own norm is the code's -/
theorem own_eq7 : own_r7_0 (own_v0_0 p0_0) (own_v0_3 p0_0 p0_2) = own_v0_7 p0_2 := by
  obtain ⟨n, ht⟩ := own_t p0_2
  have ha := own_av p0_0 p0_2 ht; have hd := own_dl p0_0; have hn := n.isLt
  have a : own_at 3 (1064 + n.val) (FP.ddiv (FP.dmul (4604930618986332160 : UInt64) (FP.i2d (own_v0_0 p0_0))) (own_v0_3 p0_0 p0_2)) := by
    refine own_at_div (own_m75 _ hd.1) ha (by omega) (1064 + n.val) ?_ (by decide) (by omega)
    rw [show 1064 + n.val + (1082 - n.val) = 1072 + 1074 by omega]
  have b : own_at 3 (1064 + n.val) (FP.dmul (4604930618986332160 : UInt64) (own_v0_2 p0_2)) := own_at_mul own_k075 ht (1064 + n.val) (by omega) (by decide) (by omega)
  unfold own_r7_0 own_v0_7
  rw [own_at_bits a b (by decide)]
theorem own_n7 : own_at 3 (1064 + 0) (4604930618986332160 : UInt64) → True := fun _ => trivial
theorem own_x_nn108 : NoNaN64 (FP.dmul (4604930618986332160 : UInt64) (own_v0_2 p0_2)) := by
  obtain ⟨n, ht⟩ := own_t p0_2
  exact own_rnd_nn (own_dmul_rnd own_b075.1 ht.1)
theorem own_q75 : own_bd 274877906944 (FP.dmul (4604930618986332160 : UInt64) (own_v0_2 p0_2)) := by
  obtain ⟨n, ht⟩ := own_t p0_2
  have ha := own_av 1 p0_2 ht; have hd := own_dl 1; have hn := n.isLt
  have a : own_at 3 (1064 + n.val) (FP.ddiv (FP.dmul (4604930618986332160 : UInt64) (FP.i2d (own_v0_0 1))) (own_v0_3 1 p0_2)) := by
    refine own_at_div (own_m75 _ hd.1) ha (by omega) (1064 + n.val) ?_ (by decide) (by omega)
    rw [show 1064 + n.val + (1082 - n.val) = 1072 + 1074 by omega]
  have b : own_at 3 (1064 + n.val) (FP.dmul (4604930618986332160 : UInt64) (own_v0_2 p0_2)) := own_at_mul own_k075 ht (1064 + n.val) (by omega) (by decide) (by omega)
  rw [← own_at_bits a b (by decide)]
  exact own_q 1 p0_2 _ hd.1
theorem own_s75 : own_bd 274877906945 (FP.dadd (4598175219545276416 : UInt64) (FP.dmul (4604930618986332160 : UInt64) (own_v0_2 p0_2))) := own_bd_add own_b025 (own_q75 p0_2) (by decide) (by decide) (by decide)
theorem own_k7 : own_bd 549755813890 (own_v0_7 p0_2) := own_bd_mul own_b12 (own_s75 p0_2) (by decide) (by decide) (by decide)
theorem own_x_nn109 : NoNaN64 (FP.dadd (4598175219545276416 : UInt64) (FP.dmul (4604930618986332160 : UInt64) (own_v0_2 p0_2))) := own_fin_nn (own_s75 p0_2).1
theorem own_x_nn110 : NoNaN64 (FP.dmul (4608083138725491507 : UInt64) (FP.dadd (4598175219545276416 : UInt64) (FP.dmul (4604930618986332160 : UInt64) (own_v0_2 p0_2)))) := own_fin_nn (own_k7 p0_2).1
theorem own_x_nn125 : NoNaN64 (FP.dadd (own_v0_7 p0_2) (FP.i2d (own_v0_1 p0_0 p0_1))) := own_fin_nn (own_den (own_k7 p0_2) (own_f p0_0 p0_1).1).1.1
theorem own_x_nn126 : NoNaN64 (FP.ddiv (FP.dmul (4612136378390124954 : UInt64) (FP.i2d (own_v0_1 p0_0 p0_1))) (FP.dadd (own_v0_7 p0_2) (FP.i2d (own_v0_1 p0_0 p0_1)))) := own_fin_nn (own_quo (own_k7 p0_2) (own_f p0_0 p0_1).1).1
theorem own_x_hc134 : (cmpValue (FP.dcmp (own_v0_5 p0_0 p0_1 p0_2) (own_v0_8 p0_0 p0_1 p0_2)) .l) = (0 : Int32) := by
  have e : own_v0_5 p0_0 p0_1 p0_2 = own_v0_8 p0_0 p0_1 p0_2 := by
    unfold own_v0_5 own_r6_0 own_v0_8
    rw [own_eq7]; rfl
  rw [e]
  exact own_self (own_quo (own_k7 p0_2) (own_f p0_0 p0_1).1).1 _
theorem own_x_hc142 : ¬ ((0 : Int32) < (cmpValue (FP.dcmp (own_v0_6 p0_0 p0_1 p0_2 p0_3) (own_v0_5 p0_0 p0_1 p0_2)) .g)) := by
  have hd := own_dl p0_0; have h2 := own_d2 p0_0 p0_3; have hf := own_f p0_0 p0_1
  have k1 := own_k p0_0 p0_2 _ hd.1; have k2 := own_k p0_0 p0_2 _ (own_d20 p0_0 p0_3)
  exact own_cmp_le (own_quo k2 hf.1).1.ne_nan (own_quo k1 hf.1).1.ne_nan (own_fmono k1 k2 hf.1 (own_kmono p0_0 p0_2 _ _ hd.1 h2.1)) _
theorem own_x_hc149 : (0 : Int32) < (cmpValue (FP.dcmp (own_v0_6 p0_0 p0_1 p0_2 p0_3) (0 : UInt64)) .l) := by
  have hf := own_f p0_0 p0_1
  have k2 := own_k p0_0 p0_2 _ (own_d20 p0_0 p0_3)
  exact own_cmp_gt (own_quo k2 hf.1).1.ne_nan own_is_0.1.ne_nan (by rw [own_is_0.2, Int.zero_mul]; exact own_quop k2 hf.1) _
end X

set_option maxRecDepth 65536 in
set_option maxHeartbeats 40000000 in
theorem comes_1 {Post : Tables → Env → Array Value → State → Outcome → State → Prop} (hpost : ∀ tb e args s v u, (limb_1_1.after args s (.returned v) u = true ∧ limb_1_2.after args s (.returned v) u = true ∧ True) → FrameEnd s (.returned v) u (Jvm.fieldLocs frame_1_writes args s ++ Jvm.arrayLocs frame_1_arrays args s ++ Jvm.staticLocs frame_1_statics s) 16 128 → Post tb e args s (.returned v) u) :
    ArmFor flags0 classFile x code maxLocals ret World_1 tables_1 room_1 Calls_1 rest_1 Pre_1 Post := by
  intro l hfl _ _ p e ha hc hk s m args below hf hA hF happ hP
  obtain ⟨hcalls, hrest, hpre⟩ := hP
  obtain ⟨-, -, -, hnamed, -, -, -, hat⟩ := (Spec.applies_iff hf).mp happ
  obtain ⟨hg, hn⟩ := and_e (Cond.before_iff.mp (show (Jvm.Cond.and given_1 narrow_1).before args s = true from hpre))
  obtain ⟨g1a, g1b⟩ := and_e hg
  obtain ⟨g2a, g2b⟩ := and_e g1b
  obtain ⟨g3a, g3b⟩ := and_e g2b
  obtain ⟨g4a, g4b⟩ := and_e g3b
  obtain ⟨w0, w1, w2, w3, rfl⟩ : ∃ w0 w1 w2 w3 : Value, args = #[w0, w1, w2, w3] := by
    have hs : args.size = 4 := by simpa [Cond.value, given_1] using g1a
    obtain ⟨L⟩ := args
    match L, hs with
    | [w0, w1, w2, w3], _ => exact ⟨w0, w1, w2, w3, rfl⟩
  have hw := fun d (hd : d ∈ tables_1) => atoms_spec (ws := Jvm.Cond.code x code maxLocals ret :: tables_1) hat d (List.mem_cons_of_mem _ hd)
  obtain ⟨i0, ei0⟩ := is_v g2a
  obtain rfl : w0 = (.int i0) := Option.some.inj ei0
  obtain ⟨i1, ei1⟩ := is_v g3a
  obtain rfl : w1 = (.int i1) := Option.some.inj ei1
  obtain ⟨i2, ei2⟩ := is_v g4a
  obtain rfl : w2 = (.int i2) := Option.some.inj ei2
  obtain ⟨i3, ei3⟩ := is_v g4b
  obtain rfl : w3 = (.int i3) := Option.some.inj ei3
  obtain ⟨n, o, h1, h2, h3, _, L, rfl, ⟨rfl, N⟩, hq⟩ := own_rm0 l s _ hw tables_1 i0 i1 i2 i3 s.heap s.heap.size (Nat.le_refl _) (by first | exact own_x_hz17 i0 i1 i2 i3 | exact own_x_hz17 i0) (by first | exact own_x_nn35 i0 i1 i2 i3 | exact own_x_nn35 i2) (by first | exact own_x_nn43 i0 i1 i2 i3 | exact own_x_nn43 i0 i2) (by first | exact own_x_hz59 i0 i1 i2 i3 | exact own_x_hz59 i0) (by first | exact own_x_c70_hc7 i0 i1 i2 i3 | exact own_x_c70_hc7 ) (by first | exact own_x_c70_hc27 i0 i1 i2 i3 | exact own_x_c70_hc27 i0 i2) (by first | exact own_x_c70_fin31 i0 i1 i2 i3 | exact own_x_c70_fin31 i0 i2) (by first | exact own_x_c81_hc2 i0 i1 i2 i3 | exact own_x_c81_hc2 i0 i1) (by first | exact own_x_c81_hc7 i0 i1 i2 i3 | exact own_x_c81_hc7 i0 i1) (by first | exact own_x_c81_c28_nn11 i0 i1 i2 i3 | exact own_x_c81_c28_nn11 i0) (by first | exact own_x_c81_c28_nn16 i0 i1 i2 i3 | exact own_x_c81_c28_nn16 i0 i2) (by first | exact own_x_c81_c28_nn17 i0 i1 i2 i3 | exact own_x_c81_c28_nn17 i0 i2) (by first | exact own_x_c81_c28_nn18 i0 i1 i2 i3 | exact own_x_c81_c28_nn18 i0 i2) (by first | exact own_x_c81_c31_nn5 i0 i1 i2 i3 | exact own_x_c81_c31_nn5 i0 i1) (by first | exact own_x_c81_c31_nn9 i0 i1 i2 i3 | exact own_x_c81_c31_nn9 i0 i1 i2) (by first | exact own_x_c81_c31_nn10 i0 i1 i2 i3 | exact own_x_c81_c31_nn10 i0 i1 i2) (by first | exact own_x_c92_hc7 i0 i1 i2 i3 | exact own_x_c92_hc7 i0 i1 i3) (by first | exact own_x_c92_c28_nn11 i0 i1 i2 i3 | exact own_x_c92_c28_nn11 i0 i3) (by first | exact own_x_c92_c28_nn16 i0 i1 i2 i3 | exact own_x_c92_c28_nn16 i0 i2 i3) (by first | exact own_x_c92_c28_nn17 i0 i1 i2 i3 | exact own_x_c92_c28_nn17 i0 i2 i3) (by first | exact own_x_c92_c28_nn18 i0 i1 i2 i3 | exact own_x_c92_c28_nn18 i0 i2 i3) (by first | exact own_x_c92_c31_nn9 i0 i1 i2 i3 | exact own_x_c92_c31_nn9 i0 i1 i2 i3) (by first | exact own_x_c92_c31_nn10 i0 i1 i2 i3 | exact own_x_c92_c31_nn10 i0 i1 i2 i3) (by first | exact own_x_nn108 i0 i1 i2 i3 | exact own_x_nn108 i2) (by first | exact own_x_nn109 i0 i1 i2 i3 | exact own_x_nn109 i2) (by first | exact own_x_nn110 i0 i1 i2 i3 | exact own_x_nn110 i2) (by first | exact own_x_nn125 i0 i1 i2 i3 | exact own_x_nn125 i0 i1 i2) (by first | exact own_x_nn126 i0 i1 i2 i3 | exact own_x_nn126 i0 i1 i2) (by first | exact own_x_hc134 i0 i1 i2 i3 | exact own_x_hc134 i0 i1 i2) (by first | exact own_x_hc142 i0 i1 i2 i3 | exact own_x_hc142 i0 i1 i2 i3) (by first | exact own_x_hc149 i0 i1 i2 i3 | exact own_x_hc149 i0 i1 i2 i3) p e ha hc hk s m _ below hf ((Spec.applies_iff_loose hf).mp happ).1 ⟨rfl, State.Warmed39.refl s, rfl⟩ trivial
  refine ⟨n, _, h1, h2, h3, hpost _ _ _ _ _ _ ⟨Cond.after_iff.mpr rfl, Cond.after_iff.mpr (eq_i res_at (Term.int_eval (1)) rfl), trivial⟩ ⟨hq.1, hq.2.1, (hq.2.2.sift fun y hy => Or.inr (N y hy)).mono (by decide) (by decide)⟩⟩
theorem main_1_1 : Claimed_1_1 := comes_1 fun _ _ _ _ _ _ h hF => ⟨h.1, hF⟩
theorem main_1_2 : Claimed_1_2 := comes_1 fun _ _ _ _ _ _ h hF => ⟨h.2.1, hF⟩
end Jvm.Pilot.@@N@@
namespace Jvm.Pilot.@@N@@
open Jvm Jvm.ClassFile Sem Op Lib Jvm.Free Jvm.Stand Jvm.Pilot.@@N@@.Jvm.D
/-! MADE BY PROGRAM (witnessworld.py) out of the Statement's table words and the real class files: 15 classes; the members and pool entries that the words name. The judged class is class 1, her method 1. -/
namespace start1
open Jvm.ClassFile
def u (s : String) : CpInfo := .utf8 (stringToUtf16 s)
/-- a pool by its gaps: so many unusable entries, then the entry; so many at the end -/
def gap : Nat → List CpInfo → List CpInfo
  | 0, r => r
  | n + 1, r => .unusable :: gap n r
def poolList (es : List (Nat × CpInfo)) (last : Nat) : List CpInfo := es.foldr (fun e r => gap e.1 (e.2 :: r)) (gap last [])
def pool (es : List (Nat × CpInfo)) (last : Nat) : Array CpInfo := ⟨poolList es last⟩
def fileOf (pool : Array CpInfo) (this : Nat) (attrs : Array Attribute := #[]) (ms : Array MethodInfo := #[]) (fl : Nat := 33) (sup : Nat := 0) (ifs : Array Nat := #[]) (fds : Array FieldInfo := #[]) : ClassFile where
  minorVersion := 0
  majorVersion := 65
  constantPool := pool
  accessFlags := fl
  thisClass := this
  superClass := sup
  interfaces := ifs
  fields := fds
  methods := ms
  attributes := attrs
def plain (name : String) (sup : Option ClassId) : Class where
  name := name
  kind := .ordinary
  loader := none
  accessFlags := 33
  super := sup
  interfaces := #[]
  cf := none
  fields := #[]
  methods := #[]
  instanceTypes := #[]
  staticTypes := #[]
  resolved := #[]
  callSites := []
  init := .initialized
  statics := none
  mirror := none

def pool0 : Array CpInfo := pool [(5, u "<init>"), (0, u "()V"), (1, .class_ 10), (1, u "java/lang/Object")] 113

def k0c0 : Code := { maxStack := 0, maxLocals := 1, code := object_method_1_code, exceptionTable := #[], attributes := #[] }
def k0m0 : Method := { name := "<init>", desc := "()V", sig := { parameters := [], returnType := none }, accessFlags := 1, code := some k0c0 }
/-- java/lang/Object -/
def k0 : Class := { plain "java/lang/Object" none with
  accessFlags := 33
  interfaces := #[]
  cf := some (fileOf pool0 8 #[] #[{ accessFlags := 1, nameIndex := 5, descriptorIndex := 6, attributes := #[] }] 33 0 #[] #[])
  fields := #[]
  methods := #[k0m0]
  instanceTypes := #[]
  staticTypes := #[]
  resolved := Array.replicate 124 none
  statics := none }

def pool1 : Array CpInfo := pool [(2, .class_ 4), (1, u "java/lang/Object"), (0, u "<init>"), (0, u "()V"), (0, .integer 2147483647), (0, .methodref 9 10), (0, .class_ 11), (0, .nameAndType 12 13), (0, u "java/lang/Math"), (0, u "max"), (0, u "(II)I"), (0, .double 4643211215818981376), (3, .class_ 19), (0, u "com/example/dipper/dipper/Bm25"), (0, .methodref 18 21), (0, .nameAndType 5 22), (0, u "(JD)V"), (0, .methodref 18 24), (0, .nameAndType 25 26), (0, u "frequencyFactor"), (0, u "(II)D"), (0, .double 4608083138725491507), (1, .double 4598175219545276416), (1, .double 4604930618986332160), (1, .double 4612136378390124954), (1, .class_ 36), (0, u "com/example/dipper/dipper/Bm25FrequencyFactorPinLaw"), (2, u "law"), (0, u "(IIII)Z")] 3

def k1m0 : Method := { name := "<init>", desc := "()V", sig := { parameters := [], returnType := none }, accessFlags := 1, code := none }
def k1c1 : Code := { maxStack := 8, maxLocals := 21, code := code, exceptionTable := #[], attributes := #[] }
def k1m1 : Method := { name := "law", desc := "(IIII)Z", sig := { parameters := [.int, .int, .int, .int], returnType := some .boolean }, accessFlags := 9, code := some k1c1 }
/-- com/example/dipper/dipper/Bm25FrequencyFactorPinLaw -/
def k1 : Class := { plain "com/example/dipper/dipper/Bm25FrequencyFactorPinLaw" (some 0) with
  accessFlags := 49
  interfaces := #[]
  cf := some (fileOf pool1 35 #[] #[{ accessFlags := 1, nameIndex := 5, descriptorIndex := 6, attributes := #[] }, { accessFlags := 9, nameIndex := 39, descriptorIndex := 40, attributes := #[] }] 49 2 #[] #[])
  fields := #[]
  methods := #[k1m0, k1m1]
  instanceTypes := #[]
  staticTypes := #[]
  resolved := Array.replicate 44 none
  statics := none }

def pool2 : Array CpInfo := pool [(1, .class_ 2), (0, u "java/lang/Math"), (1, .class_ 6), (1, u "java/lang/Object"), (0, u "<init>"), (0, u "()V"), (5, u "(D)D"), (83, .class_ 100), (1, u "java/lang/Math$RandomNumberGeneratorHolder"), (23, u "abs"), (47, u "negativeZeroFloatBits"), (0, u "J"), (2, u "negativeZeroDoubleBits"), (21, u "max"), (46, u "$assertionsDisabled"), (0, u "Z"), (88, u "(II)I"), (2, u "twoToTheDoubleScaleDown"), (0, u "D"), (4, u "twoToTheDoubleScaleUp"), (9, u "E"), (3, u "PI"), (2, u "TAU"), (2, u "DEGREES_TO_RADIANS"), (0, u "RADIANS_TO_DEGREES")] 94

def k2m0 : Method := { name := "<init>", desc := "()V", sig := { parameters := [], returnType := none }, accessFlags := 2, code := none }
def k2c1 : Code := { maxStack := 4, maxLocals := 2, code := jdk_29_method_64_code, exceptionTable := #[], attributes := #[] }
def k2m1 : Method := { name := "abs", desc := "(D)D", sig := { parameters := [.double], returnType := some .double }, accessFlags := 9, code := some k2c1 }
def k2c2 : Code := { maxStack := 2, maxLocals := 2, code := jdk_29_method_65_code, exceptionTable := #[], attributes := #[] }
def k2m2 : Method := { name := "max", desc := "(II)I", sig := { parameters := [.int, .int], returnType := some .int }, accessFlags := 9, code := some k2c2 }
/-- java/lang/Math -/
def k2 : Class := { plain "java/lang/Math" (some 0) with
  accessFlags := 49
  interfaces := #[]
  cf := some (fileOf pool2 1 #[.nestMembers #[98]] #[{ accessFlags := 2, nameIndex := 7, descriptorIndex := 8, attributes := #[] }, { accessFlags := 9, nameIndex := 124, descriptorIndex := 14, attributes := #[] }, { accessFlags := 9, nameIndex := 198, descriptorIndex := 335, attributes := #[] }] 49 4 #[] #[{ accessFlags := 25, nameIndex := 354, descriptorIndex := 339, attributes := #[] }, { accessFlags := 25, nameIndex := 358, descriptorIndex := 339, attributes := #[] }, { accessFlags := 25, nameIndex := 361, descriptorIndex := 339, attributes := #[] }, { accessFlags := 26, nameIndex := 364, descriptorIndex := 339, attributes := #[] }, { accessFlags := 26, nameIndex := 365, descriptorIndex := 339, attributes := #[] }, { accessFlags := 26, nameIndex := 172, descriptorIndex := 173, attributes := #[] }, { accessFlags := 26, nameIndex := 176, descriptorIndex := 173, attributes := #[] }, { accessFlags := 8, nameIndex := 344, descriptorIndex := 339, attributes := #[] }, { accessFlags := 8, nameIndex := 338, descriptorIndex := 339, attributes := #[] }, { accessFlags := 4120, nameIndex := 245, descriptorIndex := 246, attributes := #[] }])
  fields := #[{ name := "E", type := .double, accessFlags := 25, slot := 0, constantValue := 0 }, { name := "PI", type := .double, accessFlags := 25, slot := 1, constantValue := 0 }, { name := "TAU", type := .double, accessFlags := 25, slot := 2, constantValue := 0 }, { name := "DEGREES_TO_RADIANS", type := .double, accessFlags := 26, slot := 3, constantValue := 0 }, { name := "RADIANS_TO_DEGREES", type := .double, accessFlags := 26, slot := 4, constantValue := 0 }, { name := "negativeZeroFloatBits", type := .long, accessFlags := 26, slot := 5, constantValue := 0 }, { name := "negativeZeroDoubleBits", type := .long, accessFlags := 26, slot := 6, constantValue := 0 }, { name := "twoToTheDoubleScaleUp", type := .double, accessFlags := 8, slot := 7, constantValue := 0 }, { name := "twoToTheDoubleScaleDown", type := .double, accessFlags := 8, slot := 8, constantValue := 0 }, { name := "$assertionsDisabled", type := .boolean, accessFlags := 4120, slot := 9, constantValue := 0 }]
  methods := #[k2m0, k2m1, k2m2]
  instanceTypes := #[]
  staticTypes := #[.double, .double, .double, .double, .double, .long, .long, .double, .double, .boolean]
  resolved := Array.replicate 460 none
  statics := none }

def pool3 : Array CpInfo := pool [(1, .methodref 2 3), (0, .class_ 4), (0, .nameAndType 5 6), (0, u "java/lang/Object"), (0, u "<init>"), (0, u "()V"), (9, .methodref 17 18), (0, .class_ 19), (0, .nameAndType 20 21), (0, u "java/lang/Double"), (0, u "isInfinite"), (0, u "(D)Z"), (3, .fieldref 26 27), (0, .class_ 28), (0, .nameAndType 29 30), (0, u "com/example/dipper/dipper/Bm25"), (0, u "documentCount"), (0, u "J"), (0, .fieldref 26 32), (0, .nameAndType 33 34), (0, u "averageLength"), (0, u "D"), (21, .methodref 26 57), (0, .nameAndType 58 59), (0, u "lengthNorm"), (0, u "(I)D"), (0, .methodref 26 61), (0, .nameAndType 62 63), (0, u "frequencyFactor"), (0, u "(ID)D"), (0, .double 4608083138725491507), (1, .double 4598175219545276416), (1, .double 4604930618986332160), (1, .double 4612136378390124954), (10, u "(II)D"), (0, u "K1"), (1, u "B"), (0, u "K2"), (0, u "(JD)V")] 30

def k3c0 : Code := { maxStack := 4, maxLocals := 5, code := prog_3_method_1_code, exceptionTable := #[], attributes := #[] }
def k3m0 : Method := { name := "<init>", desc := "(JD)V", sig := { parameters := [.long, .double], returnType := none }, accessFlags := 1, code := some k3c0 }
def k3c1 : Code := { maxStack := 4, maxLocals := 3, code := prog_3_method_4_code, exceptionTable := #[], attributes := #[] }
def k3m1 : Method := { name := "frequencyFactor", desc := "(II)D", sig := { parameters := [.int, .int], returnType := some .double }, accessFlags := 1, code := some k3c1 }
def k3c2 : Code := { maxStack := 8, maxLocals := 2, code := prog_3_method_5_code, exceptionTable := #[], attributes := #[] }
def k3m2 : Method := { name := "lengthNorm", desc := "(I)D", sig := { parameters := [.int], returnType := some .double }, accessFlags := 0, code := some k3c2 }
def k3c3 : Code := { maxStack := 6, maxLocals := 3, code := prog_3_method_6_code, exceptionTable := #[], attributes := #[] }
def k3m3 : Method := { name := "frequencyFactor", desc := "(ID)D", sig := { parameters := [.int, .double], returnType := some .double }, accessFlags := 8, code := some k3c3 }
/-- com/example/dipper/dipper/Bm25 -/
def k3 : Class := { plain "com/example/dipper/dipper/Bm25" (some 0) with
  accessFlags := 33
  interfaces := #[]
  cf := some (fileOf pool3 26 #[] #[{ accessFlags := 1, nameIndex := 5, descriptorIndex := 86, attributes := #[] }, { accessFlags := 1, nameIndex := 62, descriptorIndex := 81, attributes := #[] }, { accessFlags := 0, nameIndex := 58, descriptorIndex := 59, attributes := #[] }, { accessFlags := 8, nameIndex := 62, descriptorIndex := 63, attributes := #[] }] 33 2 #[] #[{ accessFlags := 26, nameIndex := 82, descriptorIndex := 34, attributes := #[] }, { accessFlags := 26, nameIndex := 84, descriptorIndex := 34, attributes := #[] }, { accessFlags := 26, nameIndex := 85, descriptorIndex := 34, attributes := #[] }, { accessFlags := 18, nameIndex := 29, descriptorIndex := 30, attributes := #[] }, { accessFlags := 18, nameIndex := 33, descriptorIndex := 34, attributes := #[] }])
  fields := #[{ name := "K1", type := .double, accessFlags := 26, slot := 0, constantValue := 0 }, { name := "B", type := .double, accessFlags := 26, slot := 1, constantValue := 0 }, { name := "K2", type := .double, accessFlags := 26, slot := 2, constantValue := 0 }, { name := "documentCount", type := .long, accessFlags := 18, slot := 0, constantValue := 0 }, { name := "averageLength", type := .double, accessFlags := 18, slot := 1, constantValue := 0 }]
  methods := #[k3m0, k3m1, k3m2, k3m3]
  instanceTypes := #[.long, .double]
  staticTypes := #[.double, .double, .double]
  resolved := Array.replicate 117 none
  statics := none }

def pool4 : Array CpInfo := pool [(1, .class_ 2), (0, u "java/io/Serializable"), (0, .class_ 4), (0, u "java/lang/Object")] 2

/-- java/io/Serializable -/
def k4 : Class := { plain "java/io/Serializable" (some 0) with
  accessFlags := 1537
  interfaces := #[]
  cf := some (fileOf pool4 1 #[] #[] 1537 3 #[] #[])
  fields := #[]
  methods := #[]
  instanceTypes := #[]
  staticTypes := #[]
  resolved := Array.replicate 7 none
  statics := none }

def pool5 : Array CpInfo := pool [(2, .class_ 4), (1, u "java/lang/Object"), (0, u "<init>"), (0, u "()V"), (1, .class_ 10), (1, u "java/lang/Number"), (2, .class_ 14), (0, u "java/io/Serializable"), (0, u "serialVersionUID"), (0, u "J")] 20

def k5m0 : Method := { name := "<init>", desc := "()V", sig := { parameters := [], returnType := none }, accessFlags := 1, code := none }
/-- java/lang/Number -/
def k5 : Class := { plain "java/lang/Number" (some 0) with
  accessFlags := 1057
  interfaces := #[4]
  cf := some (fileOf pool5 8 #[] #[{ accessFlags := 1, nameIndex := 5, descriptorIndex := 6, attributes := #[] }] 1057 2 #[13] #[{ accessFlags := 26, nameIndex := 15, descriptorIndex := 16, attributes := #[] }])
  fields := #[{ name := "serialVersionUID", type := .long, accessFlags := 26, slot := 0, constantValue := 0 }]
  methods := #[k5m0]
  instanceTypes := #[]
  staticTypes := #[.long]
  resolved := Array.replicate 37 none
  statics := none }

def pool6 : Array CpInfo := pool [(1, .class_ 2), (0, u "java/lang/Comparable"), (0, .class_ 4), (0, u "java/lang/Object")] 7

/-- java/lang/Comparable -/
def k6 : Class := { plain "java/lang/Comparable" (some 0) with
  accessFlags := 1537
  interfaces := #[]
  cf := some (fileOf pool6 1 #[] #[] 1537 3 #[] #[])
  fields := #[]
  methods := #[]
  instanceTypes := #[]
  staticTypes := #[]
  resolved := Array.replicate 12 none
  statics := none }

def pool7 : Array CpInfo := pool [(1, .class_ 2), (0, u "java/lang/constant/Constable"), (0, .class_ 4), (0, u "java/lang/Object")] 6

/-- java/lang/constant/Constable -/
def k7 : Class := { plain "java/lang/constant/Constable" (some 0) with
  accessFlags := 1537
  interfaces := #[]
  cf := some (fileOf pool7 1 #[] #[] 1537 3 #[] #[])
  fields := #[]
  methods := #[]
  instanceTypes := #[]
  staticTypes := #[]
  resolved := Array.replicate 11 none
  statics := none }

def pool8 : Array CpInfo := pool [(1, .class_ 2), (0, u "java/lang/constant/ConstantDesc"), (0, .class_ 4), (0, u "java/lang/Object")] 32

/-- java/lang/constant/ConstantDesc -/
def k8 : Class := { plain "java/lang/constant/ConstantDesc" (some 0) with
  accessFlags := 1537
  interfaces := #[]
  cf := some (fileOf pool8 1 #[] #[] 1537 3 #[] #[])
  fields := #[]
  methods := #[]
  instanceTypes := #[]
  staticTypes := #[]
  resolved := Array.replicate 37 none
  statics := none }

def pool9 : Array CpInfo := pool [(1, .class_ 2), (0, u "java/lang/Double"), (11, u "(D)Z"), (8, .class_ 25), (1, u "java/lang/Math"), (12, .methodref 23 39), (0, .nameAndType 40 41), (0, u "abs"), (0, u "(D)D"), (69, .double 9218868437227405311), (2, .class_ 116), (1, u "java/lang/Number"), (3, u "value"), (0, u "D"), (5, u "isInfinite"), (45, u "TYPE"), (0, u "Ljava/lang/Class;"), (0, .class_ 176), (0, u "java/lang/Comparable"), (0, .class_ 178), (0, u "java/lang/constant/Constable"), (0, .class_ 180), (0, u "java/lang/constant/ConstantDesc"), (0, u "POSITIVE_INFINITY"), (3, u "NEGATIVE_INFINITY"), (2, u "NaN"), (2, u "MAX_VALUE"), (0, u "MIN_NORMAL"), (0, u "MIN_VALUE"), (2, u "SIZE"), (0, u "I"), (1, u "PRECISION"), (1, u "MAX_EXPONENT"), (1, u "MIN_EXPONENT"), (1, u "BYTES"), (3, u "serialVersionUID"), (0, u "J")] 79

def k9c0 : Code := { maxStack := 4, maxLocals := 2, code := jdk_117_method_7_code, exceptionTable := #[], attributes := #[] }
def k9m0 : Method := { name := "isInfinite", desc := "(D)Z", sig := { parameters := [.double], returnType := some .boolean }, accessFlags := 9, code := some k9c0 }
/-- java/lang/Double -/
def k9 : Class := { plain "java/lang/Double" (some 5) with
  accessFlags := 49
  interfaces := #[6, 7, 8]
  cf := some (fileOf pool9 1 #[] #[{ accessFlags := 9, nameIndex := 127, descriptorIndex := 14, attributes := #[] }] 49 114 #[175, 177, 179] #[{ accessFlags := 25, nameIndex := 181, descriptorIndex := 121, attributes := #[] }, { accessFlags := 25, nameIndex := 185, descriptorIndex := 121, attributes := #[] }, { accessFlags := 25, nameIndex := 188, descriptorIndex := 121, attributes := #[] }, { accessFlags := 25, nameIndex := 191, descriptorIndex := 121, attributes := #[] }, { accessFlags := 25, nameIndex := 192, descriptorIndex := 121, attributes := #[] }, { accessFlags := 25, nameIndex := 193, descriptorIndex := 121, attributes := #[] }, { accessFlags := 25, nameIndex := 196, descriptorIndex := 197, attributes := #[] }, { accessFlags := 25, nameIndex := 199, descriptorIndex := 197, attributes := #[] }, { accessFlags := 25, nameIndex := 201, descriptorIndex := 197, attributes := #[] }, { accessFlags := 25, nameIndex := 203, descriptorIndex := 197, attributes := #[] }, { accessFlags := 25, nameIndex := 205, descriptorIndex := 197, attributes := #[] }, { accessFlags := 25, nameIndex := 173, descriptorIndex := 174, attributes := #[] }, { accessFlags := 18, nameIndex := 120, descriptorIndex := 121, attributes := #[] }, { accessFlags := 26, nameIndex := 209, descriptorIndex := 210, attributes := #[] }])
  fields := #[{ name := "POSITIVE_INFINITY", type := .double, accessFlags := 25, slot := 0, constantValue := 0 }, { name := "NEGATIVE_INFINITY", type := .double, accessFlags := 25, slot := 1, constantValue := 0 }, { name := "NaN", type := .double, accessFlags := 25, slot := 2, constantValue := 0 }, { name := "MAX_VALUE", type := .double, accessFlags := 25, slot := 3, constantValue := 0 }, { name := "MIN_NORMAL", type := .double, accessFlags := 25, slot := 4, constantValue := 0 }, { name := "MIN_VALUE", type := .double, accessFlags := 25, slot := 5, constantValue := 0 }, { name := "SIZE", type := .int, accessFlags := 25, slot := 6, constantValue := 0 }, { name := "PRECISION", type := .int, accessFlags := 25, slot := 7, constantValue := 0 }, { name := "MAX_EXPONENT", type := .int, accessFlags := 25, slot := 8, constantValue := 0 }, { name := "MIN_EXPONENT", type := .int, accessFlags := 25, slot := 9, constantValue := 0 }, { name := "BYTES", type := .int, accessFlags := 25, slot := 10, constantValue := 0 }, { name := "TYPE", type := (.object "java/lang/Class"), accessFlags := 25, slot := 11, constantValue := 0 }, { name := "value", type := .double, accessFlags := 18, slot := 0, constantValue := 0 }, { name := "serialVersionUID", type := .long, accessFlags := 26, slot := 12, constantValue := 0 }]
  methods := #[k9m0]
  instanceTypes := #[.double]
  staticTypes := #[.double, .double, .double, .double, .double, .double, .int, .int, .int, .int, .int, (.object "java/lang/Class"), .long]
  resolved := Array.replicate 290 none
  statics := none }

def pool10 : Array CpInfo := pool [(1, u "java/lang/Cloneable"), (0, .class_ 1), (0, u "java/lang/Object"), (0, .class_ 3)] 3

/-- java/lang/Cloneable -/
def k10 : Class := { plain "java/lang/Cloneable" (some 0) with
  accessFlags := 1537
  interfaces := #[]
  cf := some (fileOf pool10 2 #[] #[] 1537 4 #[] #[])
  fields := #[]
  methods := #[]
  instanceTypes := #[]
  staticTypes := #[]
  resolved := Array.replicate 8 none
  statics := none }

/-- the primitive byte -/
def k11 : Class := { plain "byte" none with kind := .primitive 'B', accessFlags := 0x411 }
/-- [B -/
def k12 : Class := { plain "[B" (some 0) with kind := .array 11 .byte, interfaces := #[10, 4], accessFlags := 1041 }

/-- the primitive int -/
def k13 : Class := { plain "int" none with kind := .primitive 'I', accessFlags := 0x411 }
/-- [I -/
def k14 : Class := { plain "[I" (some 0) with kind := .array 13 .int, interfaces := #[10, 4], accessFlags := 1041 }

def heap : Heap := #[]
def classes : Array Class := #[k0, k1, k2, k3, k4, k5, k6, k7, k8, k9, k10, k11, k12, k13, k14]
def interned : List (Array UInt16 × Addr) := []
def slotsUsed : Nat := 0
def theMethod : MethodId := ⟨1, 1⟩
def args0 : Array Value := #[.int 5, .int 6, .int 3, .int 1]
def aboutOver (below : List Frame) : State where
  vm := { classes := classes, interned := interned.toArray }
  heap := heap
  slotsUsed := slotsUsed
  threads := #[{ frames := .invoking theMethod args0 :: below }]
def below0 : List Frame := [.native { method := ⟨0, 0⟩, args := #[] }]
def about1 : State := aboutOver below0
def p0 : Program := .bare "" "" ""
def e0 : Env := launch0.env 0 0 0
theorem w_frames : about1.frames = Frame.invoking theMethod args0 :: below0 := rfl
set_option maxRecDepth 65536 in
theorem w_args : argsFit about1.vm theMethod args0 = true := by decide +kernel
set_option maxRecDepth 65536 in
theorem w_heap : heapFits about1 = true := by decide +kernel
set_option maxRecDepth 65536 in
theorem w_runnable : about1.curStatus? = some .runnable := by decide +kernel
set_option maxRecDepth 65536 in
theorem w_alone : about1.alone = true := by decide +kernel
set_option maxRecDepth 65536 in
theorem w_named : about1.methodNamed? x = some theMethod := by decide +kernel
set_option maxRecDepth 65536 in
theorem w_hears : about1.hears theMethod below0 = true := by decide +kernel
set_option maxRecDepth 65536 in
theorem w_ripe : about1.ripe theMethod args0 below0 = true := by decide +kernel
theorem w_running : about1.status = .running := rfl
set_option maxRecDepth 65536 in
theorem w_room : about1.hasRoom e0.platform room_1 = true :=
  launch0.hasRoom_least _ room_1 (by decide +kernel) (by decide +kernel) (by decide +kernel) (by decide +kernel) (by decide +kernel) (by decide +kernel)
theorem allAtoms_all (ts : List Jvm.Cond) (a : Array Jvm.Value) (st : Jvm.State) : (allAtoms ts).before a st = ts.all (fun c => c.before a st) := by
  induction ts with
  | nil => rfl
  | cons c t ih =>
    show (Jvm.Cond.and c (allAtoms t)).before a st = _
    rw [Jvm.Cond.before_and, ih, List.all_cons]
def words1 : List Jvm.Cond := Jvm.Cond.code x code maxLocals ret :: tables_1
/-- a 'code' word, met by the world's own term for the bytes: nothing is compared byte by byte -/
theorem code_word {y : MethodName} {bytes : ByteArray} {mx : Nat} {rt : Option FieldType} {a : Array Value} {s : State} {m : MethodId} {meth : Method} {c : Code} (h1 : s.methodNamed? y = some m) (h2 : s.vm.method? m = some meth) (h3 : meth.code = some c) (h4 : c.code = bytes)
    (h5 : (c.maxLocals == mx && c.exceptionTable.isEmpty && decide (c.maxStack ≤ mostOperands) && decide (meth.sig.returnType = rt) && !meth.locks && decide (parseMethodDescriptor y.desc = some meth.sig)) = true) : (Jvm.Cond.code y bytes mx rt).before a s = true := by
  simp only [Bool.and_eq_true, beq_iff_eq, Bool.not_eq_true', decide_eq_true_eq] at h5
  obtain ⟨⟨⟨⟨⟨g1, g2⟩, g3⟩, g4⟩, g5⟩, g6⟩ := h5
  simp [Cond.before, Cond.holds, Cond.value, h1, h2, h3, h4, g1, g2, g3, g4, g5, g6]
def isCode : Jvm.Cond → Bool
  | .code _ _ _ _ => true
  | _ => false
theorem all_split {L : List Jvm.Cond} {P : Jvm.Cond → Bool} (h1 : L.all (fun c => isCode c || P c) = true) (h2 : ∀ c ∈ L.filter isCode, P c = true) : L.all P = true := by
  refine List.all_eq_true.mpr fun c hc => ?_
  have h := List.all_eq_true.mp h1 c hc
  rcases Bool.eq_false_or_eq_true (isCode c) with hi | hi
  · exact h2 c (List.mem_filter.mpr ⟨hc, hi⟩)
  · simpa [hi] using h
set_option maxRecDepth 65536 in
theorem w_c0 : (Jvm.Cond.code x code maxLocals ret).before args0 about1 = true := code_word (m := ⟨1, 1⟩) (meth := k1m1) (c := k1c1) (by decide +kernel) rfl rfl rfl (by decide +kernel)
set_option maxRecDepth 65536 in
theorem w_c1 : (Jvm.Cond.code ({ cls := "java/lang/Math", name := "max", desc := "(II)I" } : Jvm.MethodName) jdk_29_method_65_code (2 : Nat) (Option.some Jvm.ClassFile.FieldType.int)).before args0 about1 = true := code_word (m := ⟨2, 2⟩) (meth := k2m2) (c := k2c2) (by decide +kernel) rfl rfl rfl (by decide +kernel)
set_option maxRecDepth 65536 in
theorem w_c2 : (Jvm.Cond.code ({ cls := "com/example/dipper/dipper/Bm25", name := "<init>", desc := "(JD)V" } : Jvm.MethodName) prog_3_method_1_code (5 : Nat) (Option.none : Option Jvm.ClassFile.FieldType)).before args0 about1 = true := code_word (m := ⟨3, 0⟩) (meth := k3m0) (c := k3c0) (by decide +kernel) rfl rfl rfl (by decide +kernel)
set_option maxRecDepth 65536 in
theorem w_c3 : (Jvm.Cond.code ({ cls := "java/lang/Object", name := "<init>", desc := "()V" } : Jvm.MethodName) object_method_1_code (1 : Nat) (Option.none : Option Jvm.ClassFile.FieldType)).before args0 about1 = true := code_word (m := ⟨0, 0⟩) (meth := k0m0) (c := k0c0) (by decide +kernel) rfl rfl rfl (by decide +kernel)
set_option maxRecDepth 65536 in
theorem w_c4 : (Jvm.Cond.code ({ cls := "java/lang/Double", name := "isInfinite", desc := "(D)Z" } : Jvm.MethodName) jdk_117_method_7_code (2 : Nat) (Option.some Jvm.ClassFile.FieldType.boolean)).before args0 about1 = true := code_word (m := ⟨9, 0⟩) (meth := k9m0) (c := k9c0) (by decide +kernel) rfl rfl rfl (by decide +kernel)
set_option maxRecDepth 65536 in
theorem w_c5 : (Jvm.Cond.code ({ cls := "java/lang/Math", name := "abs", desc := "(D)D" } : Jvm.MethodName) jdk_29_method_64_code (2 : Nat) (Option.some Jvm.ClassFile.FieldType.double)).before args0 about1 = true := code_word (m := ⟨2, 1⟩) (meth := k2m1) (c := k2c1) (by decide +kernel) rfl rfl rfl (by decide +kernel)
set_option maxRecDepth 65536 in
theorem w_c6 : (Jvm.Cond.code ({ cls := "com/example/dipper/dipper/Bm25", name := "frequencyFactor", desc := "(II)D" } : Jvm.MethodName) prog_3_method_4_code (3 : Nat) (Option.some Jvm.ClassFile.FieldType.double)).before args0 about1 = true := code_word (m := ⟨3, 1⟩) (meth := k3m1) (c := k3c1) (by decide +kernel) rfl rfl rfl (by decide +kernel)
set_option maxRecDepth 65536 in
theorem w_c7 : (Jvm.Cond.code ({ cls := "com/example/dipper/dipper/Bm25", name := "lengthNorm", desc := "(I)D" } : Jvm.MethodName) prog_3_method_5_code (2 : Nat) (Option.some Jvm.ClassFile.FieldType.double)).before args0 about1 = true := code_word (m := ⟨3, 2⟩) (meth := k3m2) (c := k3c2) (by decide +kernel) rfl rfl rfl (by decide +kernel)
set_option maxRecDepth 65536 in
theorem w_c8 : (Jvm.Cond.code ({ cls := "com/example/dipper/dipper/Bm25", name := "frequencyFactor", desc := "(ID)D" } : Jvm.MethodName) prog_3_method_6_code (3 : Nat) (Option.some Jvm.ClassFile.FieldType.double)).before args0 about1 = true := code_word (m := ⟨3, 3⟩) (meth := k3m3) (c := k3c3) (by decide +kernel) rfl rfl rfl (by decide +kernel)
def codes1 : List Jvm.Cond := [Jvm.Cond.code x code maxLocals ret, Jvm.Cond.code ({ cls := "java/lang/Math", name := "max", desc := "(II)I" } : Jvm.MethodName) jdk_29_method_65_code (2 : Nat) (Option.some Jvm.ClassFile.FieldType.int), Jvm.Cond.code ({ cls := "com/example/dipper/dipper/Bm25", name := "<init>", desc := "(JD)V" } : Jvm.MethodName) prog_3_method_1_code (5 : Nat) (Option.none : Option Jvm.ClassFile.FieldType), Jvm.Cond.code ({ cls := "java/lang/Object", name := "<init>", desc := "()V" } : Jvm.MethodName) object_method_1_code (1 : Nat) (Option.none : Option Jvm.ClassFile.FieldType), Jvm.Cond.code ({ cls := "java/lang/Double", name := "isInfinite", desc := "(D)Z" } : Jvm.MethodName) jdk_117_method_7_code (2 : Nat) (Option.some Jvm.ClassFile.FieldType.boolean), Jvm.Cond.code ({ cls := "java/lang/Math", name := "abs", desc := "(D)D" } : Jvm.MethodName) jdk_29_method_64_code (2 : Nat) (Option.some Jvm.ClassFile.FieldType.double), Jvm.Cond.code ({ cls := "com/example/dipper/dipper/Bm25", name := "frequencyFactor", desc := "(II)D" } : Jvm.MethodName) prog_3_method_4_code (3 : Nat) (Option.some Jvm.ClassFile.FieldType.double), Jvm.Cond.code ({ cls := "com/example/dipper/dipper/Bm25", name := "lengthNorm", desc := "(I)D" } : Jvm.MethodName) prog_3_method_5_code (2 : Nat) (Option.some Jvm.ClassFile.FieldType.double), Jvm.Cond.code ({ cls := "com/example/dipper/dipper/Bm25", name := "frequencyFactor", desc := "(ID)D" } : Jvm.MethodName) prog_3_method_6_code (3 : Nat) (Option.some Jvm.ClassFile.FieldType.double)]
set_option maxRecDepth 65536 in
theorem codes_eq : words1.filter isCode = codes1 := rfl
theorem w_codes : ∀ c ∈ words1.filter isCode, c.before args0 about1 = true := by
  rw [codes_eq]
  intro c hc
  simp only [codes1, List.mem_cons, List.not_mem_nil, or_false] at hc
  rcases hc with rfl | rfl | rfl | rfl | rfl | rfl | rfl | rfl | rfl
  · exact w_c0
  · exact w_c1
  · exact w_c2
  · exact w_c3
  · exact w_c4
  · exact w_c5
  · exact w_c6
  · exact w_c7
  · exact w_c8
set_option maxRecDepth 65536 in
theorem w_t1 : (words1.take 24).all (fun c => isCode c || c.before args0 about1) = true := by decide +kernel
set_option maxRecDepth 65536 in
theorem w_t2 : ((words1.drop 24).take 24).all (fun c => isCode c || c.before args0 about1) = true := by decide +kernel
set_option maxRecDepth 65536 in
theorem w_t3 : ((words1.drop 24).drop 24).all (fun c => isCode c || c.before args0 about1) = true := by decide +kernel
theorem w_tables : (allAtoms (Jvm.Cond.code x code maxLocals ret :: tables_1)).before args0 about1 = true := by
  rw [allAtoms_all]
  show words1.all (fun c => c.before args0 about1) = true
  refine all_split ?_ w_codes
  rw [← List.take_append_drop 24 words1, List.all_append, w_t1, ← List.take_append_drop 24 (words1.drop 24), List.all_append, w_t2, w_t3]
  rfl
set_option maxRecDepth 65536 in
theorem w_case : (Jvm.Cond.and given_1 narrow_1).before args0 about1 = true := by decide +kernel
theorem w_applies : (headSpec (Jvm.Cond.code x code maxLocals ret :: tables_1) room_1).applies x e0.platform about1 = true :=
  (Spec.applies_iff w_frames).mpr ⟨w_running, w_runnable, w_alone, w_named, w_hears, w_ripe, w_room, w_tables⟩
theorem atStart : AtStart classFile x code maxLocals ret World_1 tables_1 room_1 Calls_1 rest_1 Pre_1 launch0 p0 e0 about1 theMethod args0 below0 :=
  ⟨lists_1, trivial, launch0.admits_env _ _ _, launch0.least_env, fairChoices_fair.cas, fairChoices_fair.clock, w_frames, w_args, w_heap, w_applies, trivial, trivial, w_case⟩
end start1
theorem witness_1 : WitnessClaimed_1 := ⟨start1.p0, start1.e0, start1.about1, start1.theMethod, start1.args0, start1.below0, start1.atStart⟩
end Jvm.Pilot.@@N@@
