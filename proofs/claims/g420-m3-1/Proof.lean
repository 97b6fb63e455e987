import JvmDerived
import JvmDerived.Pilot.@@N@@Statement
import JvmDerived.Pilot.@@N@@Code
@@BLOCK:NumsL.lean.txt@@
set_option linter.unusedVariables false
set_option linter.unusedSimpArgs false
namespace Jvm.RoadKit
open Sem ClassFile Op Lib Jvm.Stand Jvm.Free Jvm.LawKit
section New
variable {p : Program} {l : Launch} {e : Env} {R : Room} {s : State} {m : MethodId} {args : Array Value} {below : List Frame} {meth : Method} {c : Code} {T : State} {locs : List Loc} {cells slots : Nat}
theorem retI (X : Stand p l e R s m args below meth c T locs cells slots) (hx : p.tables.exec = Jvm.exec) {pc : Nat} {Ls : Array Slot} {z : Int32} {rest : List Value} (hret : meth.sig.returnType = some .int) (hd : decode c.code pc = .ok (.ireturn, 1)) {fs : List Frame}
    (hl : ∀ (f : JFrame) (acts : List Action), f.method = m → f.locked = none → f.entered = [] → (doReturn e (T.setTop f) acts (some (.int z))).1 = T.setFrames fs) : Steps p.tables e below (T.setTop (mkF m pc Ls (.int z :: rest))) (T.setFrames fs) := by
  have hm' : T.vm.method? m = some meth := X.method'
  have hn : narrow .int (.int z) = .int z := rfl
  show Steps p.tables e below (T.setTop { method := m, pc := pc, locals := Ls, stack := _ :: rest, locked := none }) _
  jvm_step X.here [X.here.top, hx, hd, hm', hret, hn]
  first | (intro acts; rw [hl _ acts rfl rfl rfl]) | rw [hl _ _ rfl rfl rfl]
  exact Steps.refl _
theorem own_retD (X : Stand p l e R s m args below meth c T locs cells slots) (hx : p.tables.exec = Jvm.exec) {pc : Nat} {Ls : Array Slot} {z : UInt64} {rest : List Value} (hret : meth.sig.returnType = some .double) (hd : decode c.code pc = .ok (.dreturn, 1)) {fs : List Frame}
    (hl : ∀ (f : JFrame) (acts : List Action), f.method = m → f.locked = none → f.entered = [] → (doReturn e (T.setTop f) acts (some (.double z))).1 = T.setFrames fs) : Steps p.tables e below (T.setTop (mkF m pc Ls (.double z :: rest))) (T.setFrames fs) := by
  have hm' : T.vm.method? m = some meth := X.method'
  have hn : narrow .double (.double z) = .double z := rfl
  show Steps p.tables e below (T.setTop { method := m, pc := pc, locals := Ls, stack := _ :: rest, locked := none }) _
  jvm_step X.here [X.here.top, hx, hd, hm', hret, hn]
  first | (intro acts; rw [hl _ acts rfl rfl rfl]) | rw [hl _ _ rfl rfl rfl]
  exact Steps.refl _
theorem own_mvM {Z s : State} {a0 args : Array Value} {own host : String} {y : MethodName} {index : Nat} (hZ : Z.Warmed39 s.vm) (w : (Cond.methodLinkNest own index y host).before a0 Z = true) : (Cond.methodLinkNest own index y host).before args s = true := (Cond.methodLinkNest_wide hZ w :)
end New
end Jvm.RoadKit
namespace Jvm.Pilot.@@N@@
open Jvm Jvm.ClassFile Sem Op Lib Jvm.Free Jvm.Stand Jvm.LawKit Jvm.RoadKit Bundle Jvm.Free.Fl Jvm.Pilot.@@N@@.Jvm.D
/-! my own laws on doubles: a result is a rounding of its exact value (monotone), exactness, the order -/
section OwnFloat
open Jvm.FP Jvm.FP.Core
/-- the value in units of 2^-1074 -/
def own_zv (a : UInt64) : Int := Core.zval Core.b64 (Core.val64 a)
abbrev own_U : Int := (Core.one64 : Int)
theorem own_U_pos : 0 < own_U := Int.natCast_pos.mpr Core.one64_pos
/-- r is N / D, rounded, as far as the order goes -/
def own_rnd (N D : Int) (r : UInt64) : Prop :=
  Core.val64 r ≠ .nan ∧ (∀ V, Core.val64 V ≠ .nan → own_zv V * D ≤ N → own_zv V ≤ own_zv r) ∧ (∀ V, Core.val64 V ≠ .nan → N ≤ own_zv V * D → own_zv r ≤ own_zv V)
theorem own_fin_ne {a : UInt64} (h : Core.DFin a) : Core.val64 a ≠ .nan := h.ne_nan
theorem own_pow0 : (2 : Nat) ^ (Core.b64.qmin - Core.b64.qmin).toNat = 1 := by rw [Int.sub_self]; rfl
theorem own_rnd_of_round {x : UInt64} {sg : Bool} {n : Nat} {e e0 : Int} (hx : Core.val64 x = Core.round Core.b64 (.fin sg n e)) (h0 : e0 ≤ Core.b64.qmin) (h0e : e0 ≤ e) :
    own_rnd (Core.signed sg (Core.inUnits n e e0)) (((2 ^ (Core.b64.qmin - e0).toNat : Nat) : Int)) x := by
  refine ⟨?_, fun V hV h => ?_, fun V hV h => ?_⟩
  · rw [hx]; intro q; have := Core.round_nan.mp q; cases this
  · have := Core.zval_round_ge Core.good_b64 (s := sg) (c := n) (q := e) (e0 := e0) (V := Core.val64 V) (Core.val64_fits V) hV h0 h0e h
    unfold own_zv; rw [hx]; exact this
  · have := Core.zval_round_le Core.good_b64 (s := sg) (c := n) (q := e) (e0 := e0) (V := Core.val64 V) (Core.val64_fits V) hV h0 h0e h
    unfold own_zv; rw [hx]; exact this
theorem own_dadd_rnd {a b : UInt64} (ha : Core.DFin a) (hb : Core.DFin b) : own_rnd (own_zv a + own_zv b) 1 (FP.dadd a b) := by
  obtain ⟨s, c, q, ea⟩ := ha
  obtain ⟨t, d, r, eb⟩ := hb
  have fa := Core.val64_fits a; have fb := Core.val64_fits b
  rw [ea] at fa; rw [eb] at fb
  obtain ⟨sg, n, e, h1, h2, h3⟩ := Core.sum_units fa fb
  have hv : Core.val64 (FP.dadd a b) = Core.round Core.b64 (.fin sg n e) := by
    show Core.val64 (Core.dadd a b) = _
    rw [Core.val64_dadd, ea, eb, h1]
  have := own_rnd_of_round hv (Int.le_refl _) h2
  rw [h3, own_pow0] at this
  unfold own_zv; rw [ea, eb]; exact this
theorem own_zv_dneg (a : UInt64) : own_zv (Core.dneg a) = -own_zv a := by
  unfold own_zv; rw [Core.val64_dneg, Core.zval_negate]
theorem own_fin_dneg {a : UInt64} (ha : Core.DFin a) : Core.DFin (Core.dneg a) := by
  obtain ⟨s, c, q, ea⟩ := ha
  exact ⟨!s, c, q, by rw [Core.val64_dneg, ea]; rfl⟩
theorem own_dneg_zv {a : UInt64} (ha : Core.DFin a) : Core.DFin (FP.dneg a) ∧ own_zv (FP.dneg a) = -own_zv a := by
  rw [FP.dneg_core ha.notNaN]; exact ⟨own_fin_dneg ha, own_zv_dneg a⟩
theorem own_dsub_rnd {a b : UInt64} (ha : Core.DFin a) (hb : Core.DFin b) : own_rnd (own_zv a - own_zv b) 1 (FP.dsub a b) := by
  have h := own_dadd_rnd ha (own_fin_dneg hb)
  rw [own_zv_dneg] at h
  have e : FP.dsub a b = FP.dadd a (Core.dneg b) := Core.dsub_eq a b
  rw [e, Int.sub_eq_add_neg]; exact h
theorem own_dmul_rnd {a b : UInt64} (ha : Core.DFin a) (hb : Core.DFin b) : own_rnd (own_zv a * own_zv b) own_U (FP.dmul a b) := by
  obtain ⟨s, c, q, ea⟩ := ha
  obtain ⟨t, d, r, eb⟩ := hb
  have fa := Core.val64_fits a; have fb := Core.val64_fits b
  rw [ea] at fa; rw [eb] at fb
  obtain ⟨h1, h2, h3⟩ := Core.product_units fa fb
  have hv : Core.val64 (FP.dmul a b) = Core.round Core.b64 (.fin (s != t) (c * d) (q + r)) := by
    show Core.val64 (Core.dmul a b) = _
    rw [Core.val64_dmul, ea, eb, h1]
  have hq := Core.qmin_neg Core.good_b64
  have := own_rnd_of_round (e0 := 2 * Core.b64.qmin) hv (by omega) h2
  rw [h3, Core.signed_xor, show Core.b64.qmin - 2 * Core.b64.qmin = -Core.b64.qmin by omega, Core.pow_qmin64] at this
  unfold own_zv; rw [ea, eb]; exact this
theorem own_ddiv_rnd {a b : UInt64} (ha : Core.DFin a) (hb : Core.DFin b) (hz : own_zv b ≠ 0) : own_rnd (if 0 < own_zv b then own_zv a * own_U else -(own_zv a * own_U)) (own_zv b).natAbs (FP.ddiv a b) := by
  obtain ⟨s, c, q, ea⟩ := ha
  obtain ⟨t, d, r, eb⟩ := hb
  have fa := Core.val64_fits a; have fb := Core.val64_fits b
  rw [ea] at fa; rw [eb] at fb
  have hq1 := fa.2.1; have hq2 := fb.2.1
  have hqm := Core.qmin_neg Core.good_b64
  have zb : own_zv b = Core.signed t (Core.inUnits d r Core.b64.qmin) := by unfold own_zv; rw [eb]; rfl
  have za : own_zv a = Core.signed s (Core.inUnits c q Core.b64.qmin) := by unfold own_zv; rw [ea]; rfl
  have d0 : d ≠ 0 := fun h => hz (by rw [zb, h]; unfold Core.inUnits; rw [Nat.zero_mul]; exact Core.signed_zero t)
  have hB : 0 < Core.inUnits d r Core.b64.qmin := Nat.mul_pos (Nat.pos_of_ne_zero d0) (Nat.two_pow_pos _)
  have hv : Core.val64 (FP.ddiv a b) = Core.roundRatio Core.b64 (s != t) c d (q - r) := by
    show Core.val64 (Core.ddiv a b) = _
    rw [Core.val64_ddiv, ea, eb]; show (if d = 0 then _ else _) = _; rw [if_neg d0]
  have e1 : Core.inUnits c (q - r) (Core.b64.qmin - (r - Core.b64.qmin)) = Core.inUnits c q Core.b64.qmin * Core.one64 := by
    unfold Core.inUnits
    rw [← Core.pow_qmin64, Nat.mul_assoc, ← Nat.pow_add, show (q - r - (Core.b64.qmin - (r - Core.b64.qmin))).toNat = (q - Core.b64.qmin).toNat + (-Core.b64.qmin).toNat by omega]
  have e2 : ∀ v : Nat, v * 2 ^ (Core.b64.qmin - (Core.b64.qmin - (r - Core.b64.qmin))).toNat * d = v * Core.inUnits d r Core.b64.qmin := fun v => by
    unfold Core.inUnits
    rw [show Core.b64.qmin - (Core.b64.qmin - (r - Core.b64.qmin)) = r - Core.b64.qmin by omega, Nat.mul_assoc, Nat.mul_comm (2 ^ _) d]
  have hle : ∀ V : Core.Datum, Core.fits Core.b64 V → V ≠ .nan → Core.inUnits c q Core.b64.qmin * Core.one64 ≤ Core.zmag Core.b64 V * Core.inUnits d r Core.b64.qmin → Core.zmag Core.b64 (Core.roundRatio Core.b64 (s != t) c d (q - r)) ≤ Core.zmag Core.b64 V := fun V hV hn h =>
    Core.zmag_roundRatio_le Core.good_b64 (e0 := Core.b64.qmin - (r - Core.b64.qmin)) (Nat.pos_of_ne_zero d0) hV hn (by omega) (by omega) (by rw [e1, e2]; exact h)
  have hge : ∀ V : Core.Datum, Core.fits Core.b64 V → V ≠ .nan → Core.zmag Core.b64 V * Core.inUnits d r Core.b64.qmin ≤ Core.inUnits c q Core.b64.qmin * Core.one64 → Core.zmag Core.b64 V ≤ Core.zmag Core.b64 (Core.roundRatio Core.b64 (s != t) c d (q - r)) := fun V hV hn h =>
    Core.zmag_roundRatio_ge Core.good_b64 (e0 := Core.b64.qmin - (r - Core.b64.qmin)) (Nat.pos_of_ne_zero d0) hV (by omega) (by omega) (by rw [e1, e2]; exact h)
  have zr : own_zv (FP.ddiv a b) = Core.signed (s != t) (Core.zmag Core.b64 (Core.roundRatio Core.b64 (s != t) c d (q - r))) := by
    unfold own_zv; rw [hv]; unfold Core.zval; rw [Core.sgn_roundRatio]
  have hN : (if 0 < own_zv b then own_zv a * own_U else -(own_zv a * own_U)) = Core.signed (s != t) (Core.inUnits c q Core.b64.qmin * Core.one64) := by
    rw [zb, za, ← Core.signed_mul]
    cases s <;> cases t <;> simp only [Core.signed, if_true, if_false, Bool.false_eq_true, bne_self_eq_false, Bool.true_bne, Bool.false_bne, Bool.not_false, Bool.not_true] <;> split <;> omega
  have hD : ((own_zv b).natAbs : Int) = (Core.inUnits d r Core.b64.qmin : Nat) := by rw [zb, Core.natAbs_signed]
  have hzz : ∀ v : Nat, v * Core.inUnits d r Core.b64.qmin = 0 → v = 0 := fun v h => by rcases Nat.mul_eq_zero.mp h with h | h <;> omega
  rw [hN, hD]
  refine ⟨by rw [hv]; exact Core.roundRatio_ne_nan _ _ _ _ _, fun V hV h => ?_, fun V hV h => ?_⟩
  all_goals
    have h1 := hle _ (Core.val64_fits V) hV; have h2 := hge _ (Core.val64_fits V) hV; have h3 := hzz (Core.zmag Core.b64 (Core.val64 V))
    rw [zr]
    rw [show own_zv V = Core.signed (Core.sgn (Core.val64 V)) (Core.zmag Core.b64 (Core.val64 V)) from rfl] at h ⊢
    rw [← Core.signed_mul] at h
    generalize Core.zmag Core.b64 (Core.val64 V) * Core.inUnits d r Core.b64.qmin = vP at *
    generalize Core.inUnits c q Core.b64.qmin * Core.one64 = A at *
    generalize Core.sgn (Core.val64 V) = tV at *
    generalize (s != t) = st at *
    cases st <;> cases tV <;> simp only [Core.signed, if_true, Bool.false_eq_true, if_false] at h ⊢
    all_goals first
      | omega
      | (have := h1 (by omega); omega)
      | (have := h2 (by omega); omega)
      | (have := h1 (by omega); have := h3 (by omega); omega)
      | (have := h2 (by omega); have := h3 (by omega); omega)
/-- numbers of 53 digits are doubles -/
theorem own_rep (c : Int) (j : Nat) (hc : c.natAbs < 2 ^ 53) (hj : j ≤ 2045) : ∃ V, Core.DFin V ∧ own_zv V = c * ((2 ^ j : Nat) : Int) := by
  have hq1 : Core.b64.qmin = -1074 := Core.qmin_b64
  have hq2 : Core.b64.qmax = 971 := by decide
  obtain ⟨c', q', h1, h2⟩ := Core.round_exact Core.good_b64 (decide (c < 0)) (c := c.natAbs) (q := Core.b64.qmin + j) hc (by omega) (by omega)
  have hv : Core.val64 (Core.of64 (Core.round Core.b64 (.fin (decide (c < 0)) c.natAbs (Core.b64.qmin + j)))) = .fin (decide (c < 0)) c' q' := by
    rw [Core.val64_of64 (Core.round_fits Core.good_b64 _), h1]
  refine ⟨_, ⟨_, _, _, hv⟩, ?_⟩
  unfold own_zv; rw [hv]
  show Core.signed (decide (c < 0)) (Core.inUnits c' q' Core.b64.qmin) = _
  rw [h2]; unfold Core.inUnits
  rw [Core.signed_mul, show (Core.b64.qmin + (j : Int) - Core.b64.qmin).toNat = j by omega]
  congr 1
  by_cases h : c < 0
  · simp only [Core.signed, h, decide_true, if_true]; omega
  · simp only [Core.signed, h, decide_false, Bool.false_eq_true, if_false]; omega
theorem own_zv_lt {a : UInt64} (h : Core.DFin a) : (own_zv a).natAbs < Core.b64.tails * 2 ^ (Core.b64.exps - 2) := by
  have := Core.DFin.zval_lt h
  unfold own_zv Core.zval; rw [Core.natAbs_signed]; exact this
theorem own_fin_of {r V : UInt64} (hr : Core.val64 r ≠ .nan) (hV : Core.DFin V) (h : (own_zv r).natAbs ≤ (own_zv V).natAbs) : Core.DFin r := by
  cases e : Core.val64 r with
  | nan => exact absurd e hr
  | inf s =>
    have h1 := own_zv_lt hV
    have h2 : (own_zv r).natAbs = Core.b64.tails * 2 ^ (Core.b64.exps - 2) := by unfold own_zv Core.zval; rw [Core.natAbs_signed, e]; rfl
    omega
  | fin s c q => exact ⟨s, c, q, e⟩
/-- what is representable is not rounded -/
theorem own_exactV {N D : Int} {r V : UInt64} (h : own_rnd N D r) (hV : Core.DFin V) (e : own_zv V * D = N) : Core.DFin r ∧ own_zv r = own_zv V := by
  have h1 := h.2.1 V hV.ne_nan (by omega)
  have h2 := h.2.2 V hV.ne_nan (by omega)
  have h3 : own_zv r = own_zv V := by omega
  exact ⟨own_fin_of h.1 hV (by rw [h3]; exact Nat.le_refl _), h3⟩
theorem own_exact {N D : Int} {r : UInt64} (h : own_rnd N D r) (c : Int) (j : Nat) (hc : c.natAbs < 2 ^ 53) (hj : j ≤ 2045) (e : c * ((2 ^ j : Nat) : Int) * D = N) : Core.DFin r ∧ own_zv r = c * ((2 ^ j : Nat) : Int) := by
  obtain ⟨V, f, z⟩ := own_rep c j hc hj
  rw [← z] at e ⊢
  exact own_exactV h f e
/-! the order -/
theorem own_dcmp {a b : UInt64} (ha : Core.val64 a ≠ .nan) (hb : Core.val64 b ≠ .nan) : FP.dcmp a b = some (compare (own_zv a) (own_zv b)) := Core.dcmp_zval ha hb
theorem own_cmpv {a b : UInt64} (ha : Core.val64 a ≠ .nan) (hb : Core.val64 b ≠ .nan) (o : CmpOp) : cmpValue (FP.dcmp a b) o = if own_zv a < own_zv b then -1 else if own_zv a = own_zv b then 0 else 1 := by
  rw [own_dcmp ha hb, Core.compare_ite]
  by_cases h1 : own_zv a < own_zv b
  · simp only [h1, if_true]; cases o <;> rfl
  · by_cases h2 : own_zv a = own_zv b
    · simp only [h2, Int.lt_irrefl, if_true, if_false]; cases o <;> rfl
    · simp only [h1, h2, if_false]; cases o <;> rfl
theorem own_cmp_le {a b : UInt64} (ha : Core.val64 a ≠ .nan) (hb : Core.val64 b ≠ .nan) (h : own_zv a ≤ own_zv b) (o : CmpOp) : ¬ ((0 : Int32) < cmpValue (FP.dcmp a b) o) := by
  rw [own_cmpv ha hb]
  by_cases h1 : own_zv a < own_zv b
  · rw [if_pos h1]; decide
  · rw [if_neg h1, if_pos (by omega)]; decide
theorem own_cmp_ge {a b : UInt64} (ha : Core.val64 a ≠ .nan) (hb : Core.val64 b ≠ .nan) (h : own_zv b ≤ own_zv a) (o : CmpOp) : ¬ (cmpValue (FP.dcmp a b) o < (0 : Int32)) := by
  rw [own_cmpv ha hb, if_neg (by omega)]
  by_cases h1 : own_zv a = own_zv b
  · rw [if_pos h1]; decide
  · rw [if_neg h1]; decide
theorem own_cmp_lt {a b : UInt64} (ha : Core.val64 a ≠ .nan) (hb : Core.val64 b ≠ .nan) (h : own_zv a < own_zv b) (o : CmpOp) : cmpValue (FP.dcmp a b) o < (0 : Int32) := by
  rw [own_cmpv ha hb, if_pos h]; decide
theorem own_cmp_gt {a b : UInt64} (ha : Core.val64 a ≠ .nan) (hb : Core.val64 b ≠ .nan) (h : own_zv b < own_zv a) (o : CmpOp) : (0 : Int32) < cmpValue (FP.dcmp a b) o := by
  rw [own_cmpv ha hb, if_neg (by omega), if_neg (by omega)]; decide
theorem own_cmp_eq {a b : UInt64} (ha : Core.val64 a ≠ .nan) (hb : Core.val64 b ≠ .nan) (h : own_zv a = own_zv b) (o : CmpOp) : cmpValue (FP.dcmp a b) o = (0 : Int32) := by
  rw [own_cmpv ha hb, if_neg (by omega), if_pos h]
theorem own_cmp_ne {a b : UInt64} (ha : Core.val64 a ≠ .nan) (hb : Core.val64 b ≠ .nan) (h : own_zv a ≠ own_zv b) (o : CmpOp) : ¬ (cmpValue (FP.dcmp a b) o = (0 : Int32)) := by
  rw [own_cmpv ha hb]
  by_cases h1 : own_zv a < own_zv b
  · rw [if_pos h1]; decide
  · rw [if_neg h1, if_neg h]; decide
/-! no NaN -/
theorem own_nn {a : UInt64} (h : Core.val64 a ≠ .nan) : NoNaN64 a := noNaN64_no.mpr ((Core.notNaN_iff a).mpr h)
theorem own_rnd_nn {N D : Int} {r : UInt64} (h : own_rnd N D r) : NoNaN64 r := own_nn h.1
theorem own_fin_nn {a : UInt64} (h : Core.DFin a) : NoNaN64 a := own_nn h.ne_nan
/-! whole numbers -/
theorem own_i2d (x : Int32) : Core.DFin (FP.i2d x) ∧ own_zv (FP.i2d x) = x.toInt * own_U := ⟨Core.i2d_fin x, Core.DInt_zval (Core.i2d_int x)⟩
theorem own_l2d {x : Int64} (h : x.toInt.natAbs ≤ 2 ^ 53) : Core.DFin (FP.l2d x) ∧ own_zv (FP.l2d x) = x.toInt * own_U := ⟨Core.l2d_fin x, Core.DInt_zval (Core.l2d_int h)⟩
theorem own_U_eq : own_U = ((2 ^ 1074 : Nat) : Int) := rfl
end OwnFloat
section OwnFloat2
open Jvm.FP Jvm.FP.Core
theorem own_lt_U {i j : Int} : i * own_U < j * own_U ↔ i < j := by
  have h := own_U_pos
  constructor
  · intro q; exact Int.lt_of_mul_lt_mul_right q (Int.le_of_lt h)
  · intro q; exact Int.mul_lt_mul_of_pos_right q h
theorem own_eq_U {i j : Int} : i * own_U = j * own_U ↔ i = j := by
  have h := own_U_pos
  constructor
  · intro q; exact Int.eq_of_mul_eq_mul_right (by omega) q
  · intro q; rw [q]
/-- a is the whole number i -/
def own_is (i : Int) (a : UInt64) : Prop := Core.DFin a ∧ own_zv a = i * own_U
theorem own_is_i2d (x : Int32) : own_is x.toInt (FP.i2d x) := own_i2d x
theorem own_is_neg0 : own_is 0 (9223372036854775808 : UInt64) := ⟨by rw [Core.fin_bits]; decide, by decide +kernel⟩
theorem own_is_0 : own_is 0 (0 : UInt64) := ⟨by rw [Core.fin_bits]; decide, by decide +kernel⟩
theorem own_cmpU {a b : UInt64} {i j : Int} (ha : own_is i a) (hb : own_is j b) (o : CmpOp) : cmpValue (FP.dcmp a b) o = if i < j then -1 else if i = j then 0 else 1 := by
  rw [own_cmpv ha.1.ne_nan hb.1.ne_nan, ha.2, hb.2]; simp only [own_lt_U, own_eq_U]
end OwnFloat2
section OwnFloat3
open Jvm.FP Jvm.FP.Core
theorem own_is_dneg {i : Int} {a : UInt64} (h : own_is i a) : own_is (-i) (FP.dneg a) := by
  obtain ⟨f, z⟩ := own_dneg_zv h.1
  exact ⟨f, by rw [z, h.2, Int.neg_mul]⟩
theorem own_self {a : UInt64} (h : Core.DFin a) (o : CmpOp) : cmpValue (FP.dcmp a a) o = (0 : Int32) := own_cmp_eq h.ne_nan h.ne_nan rfl o
/-- x - x is nought -/
theorem own_dsub_self {a : UInt64} (h : Core.DFin a) : FP.dsub a a = 0 := by
  obtain ⟨s, c, q, e⟩ := h
  exact Core.dsub_self e
end OwnFloat3
section OwnFloat4
open Jvm.FP Jvm.FP.Core
theorem own_rep_le (c : Int) (j : Nat) (hc : c.natAbs ≤ 2 ^ 53) (hj : j ≤ 2044) : ∃ V, Core.DFin V ∧ own_zv V = c * ((2 ^ j : Nat) : Int) := by
  by_cases h : c.natAbs < 2 ^ 53
  · exact own_rep c j h (by omega)
  · obtain ⟨V, f, z⟩ := own_rep (c / 2) (j + 1) (by omega) (by omega)
    refine ⟨V, f, ?_⟩
    rw [z, Nat.pow_succ, Int.natCast_mul]
    have : c = c / 2 * 2 := by omega
    rw [Int.mul_comm ((2 ^ j : Nat) : Int), ← Int.mul_assoc]
    have e : c / 2 * ((2 : Nat) : Int) = c := by omega
    rw [e]
theorem own_rnd_scale {N D k : Int} {r : UInt64} (hk : 0 < k) (h : own_rnd (N * k) (D * k) r) : own_rnd N D r := by
  refine ⟨h.1, fun V hV q => h.2.1 V hV ?_, fun V hV q => h.2.2 V hV ?_⟩
  · rw [← Int.mul_assoc]; exact Int.mul_le_mul_of_nonneg_right q (Int.le_of_lt hk)
  · rw [← Int.mul_assoc]; exact Int.mul_le_mul_of_nonneg_right q (Int.le_of_lt hk)
/-- the relative error, one unit in the last place at the most -/
theorem own_rel {N D : Int} {r : UInt64} (h : own_rnd N D r) (hD : 0 < D) (lo : 4503599627370496 * D ≤ N) (hi : N / D < ((2 ^ 2096 : Nat) : Int)) :
    Core.DFin r ∧ 4503599627370496 * (own_zv r * D - N) ≤ N ∧ 4503599627370496 * (N - own_zv r * D) ≤ N := by
  have hM : 4503599627370496 ≤ N / D := Int.le_ediv_of_mul_le hD lo
  obtain ⟨m, hm⟩ : ∃ m : Nat, N / D = (m : Int) := ⟨(N / D).toNat, by omega⟩
  have hN := Int.mul_ediv_add_emod N D
  have hr0 := Int.emod_nonneg N (show D ≠ 0 by omega)
  have hr1 := Int.emod_lt_of_pos N hD
  have m0 : m ≠ 0 := by omega
  have l1 : 2 ^ m.log2 ≤ m := Nat.log2_self_le m0
  have l2 : m < 2 ^ (m.log2 + 1) := Nat.lt_log2_self
  have l3 : 52 ≤ m.log2 := by
    apply Nat.le_of_lt_succ
    apply (Nat.pow_lt_pow_iff_right (by decide : 1 < 2)).mp
    exact Nat.lt_of_le_of_lt (show 2 ^ 52 ≤ m by omega) l2
  have l4 : m.log2 < 2096 := by
    apply (Nat.pow_lt_pow_iff_right (by decide : 1 < 2)).mp
    exact Nat.lt_of_le_of_lt l1 (by rw [hm] at hi; exact Int.ofNat_lt.mp hi)
  obtain ⟨e, he⟩ : ∃ e, m.log2 = e + 52 := ⟨m.log2 - 52, by omega⟩
  have hg : 0 < 2 ^ e := Nat.two_pow_pos e
  have p1 : 2 ^ m.log2 = 2 ^ e * 4503599627370496 := by rw [he, Nat.pow_add]
  have p2 : 2 ^ (m.log2 + 1) = 2 ^ e * 9007199254740992 := by rw [he, Nat.pow_add, Nat.pow_add]; omega
  have dm := Nat.div_add_mod m (2 ^ e)
  have ml := Nat.mod_lt m hg
  have k1 : 4503599627370496 ≤ m / 2 ^ e := (Nat.le_div_iff_mul_le hg).mpr (by rw [Nat.mul_comm]; omega)
  have k2 : m / 2 ^ e < 9007199254740992 := (Nat.div_lt_iff_lt_mul hg).mpr (by rw [Nat.mul_comm]; omega)
  obtain ⟨V1, f1, z1⟩ := own_rep_le ((m / 2 ^ e : Nat) : Int) e (by omega) (by omega)
  obtain ⟨V2, f2, z2⟩ := own_rep_le ((m / 2 ^ e + 1 : Nat) : Int) e (by omega) (by omega)
  have a1 : ((m / 2 ^ e : Nat) : Int) * ((2 ^ e : Nat) : Int) ≤ (m : Int) := by rw [← Int.natCast_mul]; exact Int.ofNat_le.mpr (Nat.div_mul_le_self _ _)
  have a2 : (m : Int) + 1 ≤ ((m / 2 ^ e + 1 : Nat) : Int) * ((2 ^ e : Nat) : Int) := by
    rw [← Int.natCast_mul]; have : m + 1 ≤ (m / 2 ^ e + 1) * 2 ^ e := by rw [Nat.add_mul, Nat.one_mul, Nat.mul_comm]; omega
    exact Int.ofNat_le.mpr this
  have a3 : ((m / 2 ^ e + 1 : Nat) : Int) * ((2 ^ e : Nat) : Int) = ((m / 2 ^ e : Nat) : Int) * ((2 ^ e : Nat) : Int) + ((2 ^ e : Nat) : Int) := by
    rw [Int.natCast_add, Int.add_mul]; simp
  have a4 : 4503599627370496 * ((2 ^ e : Nat) : Int) ≤ (m : Int) := by
    have : 2 ^ e * 4503599627370496 ≤ m := by omega
    omega
  have b1 : own_zv V1 * D ≤ N := by
    rw [z1]; have := Int.mul_le_mul_of_nonneg_right a1 (Int.le_of_lt hD); rw [hm, Int.mul_comm] at hN; omega
  have b2 : N ≤ own_zv V2 * D := by
    rw [z2]; have := Int.mul_le_mul_of_nonneg_right a2 (Int.le_of_lt hD); rw [Int.add_mul, Int.one_mul] at this; rw [hm, Int.mul_comm] at hN; omega
  have c1 := h.2.1 V1 f1.ne_nan b1
  have c2 := h.2.2 V2 f2.ne_nan b2
  rw [z1] at c1 b1; rw [z2] at c2 b2
  have d1 := Int.mul_le_mul_of_nonneg_right c1 (Int.le_of_lt hD)
  have d2 := Int.mul_le_mul_of_nonneg_right c2 (Int.le_of_lt hD)
  have d3 := Int.mul_le_mul_of_nonneg_right a4 (Int.le_of_lt hD)
  rw [a3, Int.add_mul] at d2 b2
  have d4 : (m : Int) * D ≤ N := by rw [hm, Int.mul_comm] at hN; omega
  rw [Int.mul_assoc] at d3
  refine ⟨own_fin_of h.1 f2 ?_, by omega, by omega⟩
  rw [z2]
  have s0 : 0 ≤ ((m / 2 ^ e : Nat) : Int) * ((2 ^ e : Nat) : Int) := Int.mul_nonneg (Int.natCast_nonneg _) (Int.natCast_nonneg _)
  omega
theorem own_is_mul {i j : Int} {a b : UInt64} (ha : own_is i a) (hb : own_is j b) (h : (i * j).natAbs < 2 ^ 53) : own_is (i * j) (FP.dmul a b) := by
  refine own_exact (own_dmul_rnd ha.1 hb.1) (i * j) 1074 h (by decide) ?_
  rw [ha.2, hb.2, ← own_U_eq]; simp only [Int.mul_assoc, Int.mul_comm, Int.mul_left_comm]
theorem own_is_add {i j : Int} {a b : UInt64} (ha : own_is i a) (hb : own_is j b) (h : (i + j).natAbs < 2 ^ 53) : own_is (i + j) (FP.dadd a b) := by
  refine own_exact (own_dadd_rnd ha.1 hb.1) (i + j) 1074 h (by decide) ?_
  rw [ha.2, hb.2, ← own_U_eq, Int.mul_one, Int.add_mul]
theorem own_is_sub {i j : Int} {a b : UInt64} (ha : own_is i a) (hb : own_is j b) (h : (i - j).natAbs < 2 ^ 53) : own_is (i - j) (FP.dsub a b) := by
  refine own_exact (own_dsub_rnd ha.1 hb.1) (i - j) 1074 h (by decide) ?_
  rw [ha.2, hb.2, ← own_U_eq, Int.mul_one, Int.sub_mul]
theorem own_is_l2d {x : Int64} (h : x.toInt.natAbs ≤ 2 ^ 53) : own_is x.toInt (FP.l2d x) := own_l2d h
/-- the quotient of two whole numbers, the divisor positive -/
theorem own_is_div_rnd {i j : Int} {a b : UInt64} (ha : own_is i a) (hb : own_is j b) (hj : 0 < j) : own_rnd (i * own_U) j (FP.ddiv a b) := by
  have hU := own_U_pos
  have hz : 0 < own_zv b := by rw [hb.2]; exact Int.mul_pos hj hU
  have h := own_ddiv_rnd ha.1 hb.1 (by omega)
  rw [if_pos hz, Int.natAbs_of_nonneg (Int.le_of_lt hz), ha.2, hb.2] at h
  exact own_rnd_scale hU h
end OwnFloat4
section OwnFloat5
open Jvm.FP Jvm.FP.Core
/-- a is c * 2^(j - 1074) -/
def own_at (c : Int) (j : Nat) (a : UInt64) : Prop := Core.DFin a ∧ own_zv a = c * ((2 ^ j : Nat) : Int)
theorem own_at_is {i : Int} {a : UInt64} (h : own_is i a) : own_at i 1074 a := h
theorem own_at_add {c1 c2 : Int} {j : Nat} {a b : UInt64} (ha : own_at c1 j a) (hb : own_at c2 j b) (h : (c1 + c2).natAbs < 2 ^ 53) (hj : j ≤ 2045) : own_at (c1 + c2) j (FP.dadd a b) := by
  refine own_exact (own_dadd_rnd ha.1 hb.1) (c1 + c2) j h hj ?_
  rw [ha.2, hb.2, Int.mul_one, Int.add_mul]
theorem own_at_sub {c1 c2 : Int} {j : Nat} {a b : UInt64} (ha : own_at c1 j a) (hb : own_at c2 j b) (h : (c1 - c2).natAbs < 2 ^ 53) (hj : j ≤ 2045) : own_at (c1 - c2) j (FP.dsub a b) := by
  refine own_exact (own_dsub_rnd ha.1 hb.1) (c1 - c2) j h hj ?_
  rw [ha.2, hb.2, Int.mul_one, Int.sub_mul]
theorem own_at_mul {c1 c2 : Int} {j1 j2 : Nat} {a b : UInt64} (ha : own_at c1 j1 a) (hb : own_at c2 j2 b) (j : Nat) (e : j1 + j2 = j + 1074) (h : (c1 * c2).natAbs < 2 ^ 53) (hj : j ≤ 2045) : own_at (c1 * c2) j (FP.dmul a b) := by
  refine own_exact (own_dmul_rnd ha.1 hb.1) (c1 * c2) j h hj ?_
  have p : ((2 ^ j : Nat) : Int) * own_U = ((2 ^ j1 : Nat) : Int) * ((2 ^ j2 : Nat) : Int) := by rw [own_U_eq, ← Int.natCast_mul, ← Int.natCast_mul, ← Nat.pow_add, ← Nat.pow_add, e]
  rw [ha.2, hb.2, Int.mul_assoc (c1 * c2), p]; simp only [Int.mul_assoc, Int.mul_comm, Int.mul_left_comm]
/-- a quotient that is exact -/
theorem own_at_div {c1 c2 c : Int} {j1 j2 : Nat} {a b : UInt64} (ha : own_at c1 j1 a) (hb : own_at c2 j2 b) (hc : 0 < c2) (j : Nat) (e : c * c2 * ((2 ^ (j + j2) : Nat) : Int) = c1 * ((2 ^ (j1 + 1074) : Nat) : Int)) (h : c.natAbs < 2 ^ 53) (hj : j ≤ 2045) : own_at c j (FP.ddiv a b) := by
  have hz : 0 < own_zv b := by rw [hb.2]; exact Int.mul_pos hc (Int.natCast_pos.mpr (Nat.two_pow_pos _))
  have hr := own_ddiv_rnd ha.1 hb.1 (by omega)
  rw [if_pos hz, Int.natAbs_of_nonneg (Int.le_of_lt hz)] at hr
  refine own_exact hr c j h hj ?_
  rw [ha.2, hb.2, own_U_eq]
  rw [Nat.pow_add, Nat.pow_add, Int.natCast_mul, Int.natCast_mul] at e
  have l : c * ((2 ^ j : Nat) : Int) * (c2 * ((2 ^ j2 : Nat) : Int)) = c * c2 * (((2 ^ j : Nat) : Int) * ((2 ^ j2 : Nat) : Int)) := by simp only [Int.mul_assoc, Int.mul_comm, Int.mul_left_comm]
  rw [l, e, Int.mul_assoc]
theorem own_at_up {c : Int} {j i : Nat} {a : UInt64} (h : own_at c (j + i) a) : own_at (c * ((2 ^ i : Nat) : Int)) j a :=
  ⟨h.1, by rw [h.2, Nat.pow_add, Int.natCast_mul, Int.mul_assoc, Int.mul_comm ((2 ^ i : Nat) : Int)]⟩
theorem own_at_dn {c : Int} {j i : Nat} {a : UInt64} (h : own_at (c * ((2 ^ i : Nat) : Int)) j a) : own_at c (j + i) a :=
  ⟨h.1, by rw [h.2, Nat.pow_add, Int.natCast_mul, Int.mul_assoc, Int.mul_comm ((2 ^ i : Nat) : Int)]⟩
theorem own_at_eq {c : Int} {j : Nat} {a b : UInt64} (ha : own_at c j a) (hb : own_at c j b) (o : CmpOp) : cmpValue (FP.dcmp a b) o = (0 : Int32) := own_cmp_eq ha.1.ne_nan hb.1.ne_nan (by rw [ha.2, hb.2]) o
theorem own_at_nn {c : Int} {j : Nat} {a : UInt64} (h : own_at c j a) : NoNaN64 a := own_fin_nn h.1
end OwnFloat5
section OwnFloat6
open Jvm.FP Jvm.FP.Core
theorem own_is_div {k j : Int} {a b : UInt64} (ha : own_is (k * j) a) (hb : own_is j b) (hj : j ≠ 0) (h : k.natAbs < 2 ^ 53) : own_is k (FP.ddiv a b) := by
  have hU := own_U_pos
  have hz : own_zv b ≠ 0 := by rw [hb.2]; intro q; rcases Int.mul_eq_zero.mp q with q | q <;> omega
  refine own_exact (own_ddiv_rnd ha.1 hb.1 hz) k 1074 h (by decide) ?_
  rw [← own_U_eq]
  by_cases q : 0 < own_zv b
  · rw [if_pos q, Int.natAbs_of_nonneg (Int.le_of_lt q), ha.2, hb.2]; simp only [Int.mul_assoc, Int.mul_comm, Int.mul_left_comm]
  · rw [if_neg q]
    have e : ((own_zv b).natAbs : Int) = -own_zv b := by omega
    rw [e, ha.2, hb.2, Int.mul_neg]; congr 1; simp only [Int.mul_assoc, Int.mul_comm, Int.mul_left_comm]
theorem own_fin_between {r V1 V2 : UInt64} (hr : Core.val64 r ≠ .nan) (h1 : Core.DFin V1) (h2 : Core.DFin V2) (a : own_zv V1 ≤ own_zv r) (b : own_zv r ≤ own_zv V2) : Core.DFin r := by
  by_cases q : (own_zv r).natAbs ≤ (own_zv V1).natAbs
  · exact own_fin_of hr h1 q
  · exact own_fin_of hr h2 (by omega)
/-- a quotient by a whole number, of any dividend -/
theorem own_div_rnd {j : Int} {a b : UInt64} (ha : Core.DFin a) (hb : own_is j b) (hj : 0 < j) : own_rnd (own_zv a) j (FP.ddiv a b) := by
  have hU := own_U_pos
  have hz : 0 < own_zv b := by rw [hb.2]; exact Int.mul_pos hj hU
  have h := own_ddiv_rnd ha hb.1 (by omega)
  rw [if_pos hz, Int.natAbs_of_nonneg (Int.le_of_lt hz), hb.2] at h
  exact own_rnd_scale hU h
theorem own_rep_is (k : Int) (h : k.natAbs < 2 ^ 53) : ∃ V, own_is k V := own_rep k 1074 h (by decide)
end OwnFloat6
section OwnFloat7
open Jvm.FP Jvm.FP.Core
/-- one value, not nought: one pattern of bits -/
theorem own_bits {a b : UInt64} (ha : Core.DFin a) (hb : Core.DFin b) (e : own_zv a = own_zv b) (h : own_zv b ≠ 0) : a = b := by
  refine Core.eq_bits (fun q => h ?_) ?_
  · have := Core.DZero.zval q; exact this
  · show FP.dcmp a b = _
    rw [own_dcmp ha.ne_nan hb.ne_nan, e, Core.compare_self_int]
theorem own_at_bits {c : Int} {j : Nat} {a b : UInt64} (ha : own_at c j a) (hb : own_at c j b) (h : c ≠ 0) : a = b := by
  refine own_bits ha.1 hb.1 (by rw [ha.2, hb.2]) ?_
  rw [hb.2]; intro q
  rcases Int.mul_eq_zero.mp q with q | q
  · exact h q
  · have := Nat.two_pow_pos j; omega
theorem own_fin64 {a : UInt64} (h : Core.DFin a) : Fin64 a := fin64_core.mpr h
end OwnFloat7
section OwnFloat8
open Jvm.FP Jvm.FP.Core
/-- r's magnitude is A / B (units of 2^-1074), rounded to nearest -/
def own_rr (A B : Nat) (r : UInt64) : Prop := 0 < B ∧ ∃ s, Core.val64 r = Core.roundRatio Core.b64 s A B Core.b64.qmin
theorem own_mag {a : UInt64} : (own_zv a).natAbs = Core.zmag Core.b64 (Core.val64 a) := by unfold own_zv Core.zval; rw [Core.natAbs_signed]
theorem own_in0 (A : Nat) : Core.inUnits A Core.b64.qmin Core.b64.qmin = A := by unfold Core.inUnits; rw [own_pow0, Nat.mul_one]
theorem own_rr_mono {A1 B1 A2 B2 : Nat} {r1 r2 : UInt64} (h1 : own_rr A1 B1 r1) (h2 : own_rr A2 B2 r2) (f1 : Core.DFin r1) (f2 : Core.DFin r2) (h : A1 * B2 ≤ A2 * B1) : (own_zv r1).natAbs ≤ (own_zv r2).natAbs := by
  obtain ⟨b1, s1, e1⟩ := h1
  obtain ⟨b2, s2, e2⟩ := h2
  have n1 := f1.ne_nan; have n2 := f2.ne_nan
  rw [own_mag, own_mag]
  by_cases q1 : A1 ≤ Core.zmag Core.b64 (Core.val64 r2) * B1
  · have := Core.zmag_roundRatio_le Core.good_b64 (s := s1) (A := A1) (B := B1) (e := Core.b64.qmin) (e0 := Core.b64.qmin) b1 (Core.val64_fits r2) n2 (Int.le_refl _) (Int.le_refl _) (by rw [own_in0, own_pow0, Nat.mul_one]; exact q1)
    rw [← e1] at this; exact this
  · by_cases q2 : Core.zmag Core.b64 (Core.val64 r1) * B2 ≤ A2
    · have := Core.zmag_roundRatio_ge Core.good_b64 (s := s2) (A := A2) (B := B2) (e := Core.b64.qmin) (e0 := Core.b64.qmin) b2 (Core.val64_fits r1) (Int.le_refl _) (Int.le_refl _) (by rw [own_in0, own_pow0, Nat.mul_one]; exact q2)
      rw [← e2] at this; exact this
    · apply Nat.le_of_not_lt; intro hlt
      obtain ⟨t1, c1, x1, v1⟩ := f1
      obtain ⟨t2, c2, x2, v2⟩ := f2
      have g1 := Core.val64_fits r1; rw [v1] at g1
      have g2 := Core.val64_fits r2; rw [v2] at g2
      have d1 := Core.roundRatio_nearest Core.good_b64 (e0 := Core.b64.qmin) b1 (e1.symm.trans v1) g2.1 g2.2.1 (Int.le_refl _) (Int.le_refl _)
      have d2 := Core.roundRatio_nearest Core.good_b64 (e0 := Core.b64.qmin) b2 (e2.symm.trans v2) g1.1 g1.2.1 (Int.le_refl _) (Int.le_refl _)
      unfold Core.distance at d1 d2
      rw [own_in0] at d1 d2
      have z1 : Core.zmag Core.b64 (Core.val64 r1) = Core.inUnits c1 x1 Core.b64.qmin := by rw [v1]; rfl
      have z2 : Core.zmag Core.b64 (Core.val64 r2) = Core.inUnits c2 x2 Core.b64.qmin := by rw [v2]; rfl
      rw [← z1, ← z2] at d1 d2
      generalize hz1 : Core.zmag Core.b64 (Core.val64 r1) = Z1 at *
      generalize hz2 : Core.zmag Core.b64 (Core.val64 r2) = Z2 at *
      rw [← Int.natCast_mul, ← Int.natCast_mul] at d1 d2
      -- A1 < Z1 * B1 as well
      have k1 : A1 * B2 < Z1 * B1 * B2 := by
        have : A2 * B1 < Z1 * B2 * B1 := Nat.mul_lt_mul_of_pos_right (by omega) b1
        have e : Z1 * B2 * B1 = Z1 * B1 * B2 := by simp only [Nat.mul_assoc, Nat.mul_comm, Nat.mul_left_comm]
        omega
      have k2 : A1 < Z1 * B1 := Nat.lt_of_mul_lt_mul_right k1
      have k3 : Z2 * B1 * B2 < A2 * B1 := by
        have : Z2 * B1 * B2 < A1 * B2 := Nat.mul_lt_mul_of_pos_right (by omega) b2
        omega
      have k4 : Z2 * B2 < A2 := by
        have e : Z2 * B1 * B2 = Z2 * B2 * B1 := by simp only [Nat.mul_assoc, Nat.mul_comm, Nat.mul_left_comm]
        rw [e] at k3; exact Nat.lt_of_mul_lt_mul_right k3
      have m1 : (Z1 + Z2) * B1 ≤ 2 * A1 := by rw [Nat.add_mul]; omega
      have m2 : 2 * A2 ≤ (Z1 + Z2) * B2 := by rw [Nat.add_mul]; omega
      have m3 := Nat.mul_le_mul_right B2 m1
      have m4 := Nat.mul_le_mul_right B1 m2
      have e3 : (Z1 + Z2) * B1 * B2 = (Z1 + Z2) * B2 * B1 := by simp only [Nat.mul_assoc, Nat.mul_comm, Nat.mul_left_comm]
      have e4 : 2 * A1 * B2 = 2 * (A1 * B2) := Nat.mul_assoc _ _ _
      have e5 : 2 * A2 * B1 = 2 * (A2 * B1) := Nat.mul_assoc _ _ _
      have e6 : A1 * B2 = A2 * B1 := by omega
      have cg := Core.roundRatio_congr (f := Core.b64) (s := s1) (e := Core.b64.qmin) (e' := Core.b64.qmin) b1 b2 (by rw [own_pow0, Nat.mul_one, Nat.mul_one]; exact e6)
      have w1 := Core.zmag_roundRatio_le Core.good_b64 (s := s1) (A := A2) (B := B2) (e := Core.b64.qmin) (e0 := Core.b64.qmin) (V := Core.val64 r2) b2 (Core.val64_fits r2) n2 (Int.le_refl _) (Int.le_refl _)
      -- one sign or the other: the magnitudes are one
      have sg : Core.zmag Core.b64 (Core.roundRatio Core.b64 s1 A2 B2 Core.b64.qmin) = Core.zmag Core.b64 (Core.roundRatio Core.b64 s2 A2 B2 Core.b64.qmin) := by
        by_cases q : s1 = s2
        · rw [q]
        · have e : s2 = !s1 := by cases s1 <;> cases s2 <;> simp at q ⊢
          have ng := Core.negate_roundRatio Core.b64 s1 A2 B2 Core.b64.qmin
          rw [e, ← ng]
          cases Core.roundRatio Core.b64 s1 A2 B2 Core.b64.qmin <;> rfl
      rw [← cg, ← e1, ← e2, hz1, hz2] at sg
      omega
theorem own_rr_of_round {x : UInt64} {sg : Bool} {n : Nat} {e : Int} {A B : Nat} (hx : Core.val64 x = Core.round Core.b64 (.fin sg n e)) (hB : 0 < B) (h : n * B * 2 ^ (e - Core.b64.qmin).toNat = A * 1 * 2 ^ (Core.b64.qmin - e).toNat) : own_rr A B x :=
  ⟨hB, sg, hx.trans (Core.roundRatio_congr (f := Core.b64) (s := sg) (by decide) hB h)⟩
theorem own_rr_dmul {a b : UInt64} (ha : Core.DFin a) (hb : Core.DFin b) : own_rr ((own_zv a).natAbs * (own_zv b).natAbs) Core.one64 (FP.dmul a b) := by
  obtain ⟨s, c, q, ea⟩ := ha
  obtain ⟨t, d, r, eb⟩ := hb
  have fa := Core.val64_fits a; have fb := Core.val64_fits b
  rw [ea] at fa; rw [eb] at fb
  have h1 := fa.2.1; have h2 := fb.2.1
  have hq := Core.qmin_neg Core.good_b64
  have hv : Core.val64 (FP.dmul a b) = Core.round Core.b64 (.fin (s != t) (c * d) (q + r)) := by
    show Core.val64 (Core.dmul a b) = _
    rw [Core.val64_dmul, ea, eb]; rfl
  refine own_rr_of_round hv Core.one64_pos ?_
  rw [own_mag, own_mag, ea, eb]
  show _ = Core.inUnits c q Core.b64.qmin * Core.inUnits d r Core.b64.qmin * 1 * _
  unfold Core.inUnits
  rw [← Core.pow_qmin64, Nat.mul_one]
  have l : c * d * 2 ^ (-Core.b64.qmin).toNat * 2 ^ (q + r - Core.b64.qmin).toNat = c * d * 2 ^ ((-Core.b64.qmin).toNat + (q + r - Core.b64.qmin).toNat) := by rw [Nat.pow_add, Nat.mul_assoc (c * d)]
  have m : c * 2 ^ (q - Core.b64.qmin).toNat * (d * 2 ^ (r - Core.b64.qmin).toNat) * 2 ^ (Core.b64.qmin - (q + r)).toNat = c * d * 2 ^ ((q - Core.b64.qmin).toNat + (r - Core.b64.qmin).toNat + (Core.b64.qmin - (q + r)).toNat) := by
    rw [Nat.pow_add, Nat.pow_add]; simp only [Nat.mul_assoc, Nat.mul_comm, Nat.mul_left_comm]
  rw [l, m]; congr 2; omega
theorem own_rr_dadd {a b : UInt64} (ha : Core.DFin a) (hb : Core.DFin b) : own_rr (own_zv a + own_zv b).natAbs 1 (FP.dadd a b) := by
  obtain ⟨s, c, q, ea⟩ := ha
  obtain ⟨t, d, r, eb⟩ := hb
  have fa := Core.val64_fits a; have fb := Core.val64_fits b
  rw [ea] at fa; rw [eb] at fb
  obtain ⟨sg, n, e, h1, h2, h3⟩ := Core.sum_units fa fb
  have hv : Core.val64 (FP.dadd a b) = Core.round Core.b64 (.fin sg n e) := by
    show Core.val64 (Core.dadd a b) = _
    rw [Core.val64_dadd, ea, eb, h1]
  refine own_rr_of_round hv (by decide) ?_
  have z : (own_zv a + own_zv b).natAbs = Core.inUnits n e Core.b64.qmin := by
    unfold own_zv; rw [ea, eb, ← h3, Core.natAbs_signed]
  rw [z, Nat.mul_one, Nat.mul_one]
  unfold Core.inUnits
  rw [show (Core.b64.qmin - e).toNat = 0 by omega, Nat.pow_zero, Nat.mul_one]
theorem own_rr_ddiv {a b : UInt64} (ha : Core.DFin a) (hb : Core.DFin b) (hz : own_zv b ≠ 0) : own_rr ((own_zv a).natAbs * Core.one64) (own_zv b).natAbs (FP.ddiv a b) := by
  obtain ⟨s, c, q, ea⟩ := ha
  obtain ⟨t, d, r, eb⟩ := hb
  have fa := Core.val64_fits a; have fb := Core.val64_fits b
  rw [ea] at fa; rw [eb] at fb
  have h1 := fa.2.1; have h2 := fb.2.1
  have hq := Core.qmin_neg Core.good_b64
  have zb : own_zv b = Core.signed t (Core.inUnits d r Core.b64.qmin) := by unfold own_zv; rw [eb]; rfl
  have d0 : d ≠ 0 := fun h => hz (by rw [zb, h]; unfold Core.inUnits; rw [Nat.zero_mul]; exact Core.signed_zero t)
  have hv : Core.val64 (FP.ddiv a b) = Core.roundRatio Core.b64 (s != t) c d (q - r) := by
    show Core.val64 (Core.ddiv a b) = _
    rw [Core.val64_ddiv, ea, eb]; show (if d = 0 then _ else _) = _; rw [if_neg d0]
  refine ⟨by omega, s != t, hv.trans (Core.roundRatio_congr (Nat.pos_of_ne_zero d0) (by omega) ?_)⟩
  rw [own_mag, own_mag, ea, eb]
  show c * Core.inUnits d r Core.b64.qmin * _ = Core.inUnits c q Core.b64.qmin * Core.one64 * d * _
  unfold Core.inUnits
  rw [← Core.pow_qmin64]
  have l : c * (d * 2 ^ (r - Core.b64.qmin).toNat) * 2 ^ (q - r - Core.b64.qmin).toNat = c * d * 2 ^ ((r - Core.b64.qmin).toNat + (q - r - Core.b64.qmin).toNat) := by
    rw [Nat.pow_add]; simp only [Nat.mul_assoc, Nat.mul_comm, Nat.mul_left_comm]
  have m : c * 2 ^ (q - Core.b64.qmin).toNat * 2 ^ (-Core.b64.qmin).toNat * d * 2 ^ (Core.b64.qmin - (q - r)).toNat = c * d * 2 ^ ((q - Core.b64.qmin).toNat + (-Core.b64.qmin).toNat + (Core.b64.qmin - (q - r)).toNat) := by
    rw [Nat.pow_add, Nat.pow_add]; simp only [Nat.mul_assoc, Nat.mul_comm, Nat.mul_left_comm]
  rw [l, m]; congr 2; omega
end OwnFloat8
section OwnFloat9
open Jvm.FP Jvm.FP.Core
/-- a quotient by a power of two -/
theorem own_at_divp {c : Int} {j i : Nat} {a b : UInt64} (ha : own_at c (j + i) a) (hb : own_at 1 (1074 + i) b) (h : c.natAbs < 2 ^ 53) (hj : j ≤ 2045) : own_at c j (FP.ddiv a b) := by
  refine own_at_div ha hb (by decide) j ?_ h hj
  rw [Int.mul_one, show j + (1074 + i) = j + i + 1074 by omega]
theorem own_8d : own_at 1 (1074 + 3) (4620693217682128896 : UInt64) := ⟨by rw [Core.fin_bits]; decide, by decide +kernel⟩
theorem own_2d : own_at 1 (1074 + 1) (4611686018427387904 : UInt64) := ⟨by rw [Core.fin_bits]; decide, by decide +kernel⟩
end OwnFloat9

theorem own_pn0 : plainName "com/example/dipper/dipper/Bm25" = true := by first | (simp [plainName, overriddenIn]; done) | decide +kernel
theorem own_d1_0 : decode prog_3_method_3_code 0 = .ok (.iload_n 0, 1) := by decide +kernel
theorem own_d1_1 : decode prog_3_method_3_code 1 = .ok (.iconst 1, 1) := by decide +kernel
theorem own_d1_2 : decode prog_3_method_3_code 2 = .ok (.if_icmp .ge 17, 3) := by decide +kernel
theorem own_d1_19 : decode prog_3_method_3_code 19 = .ok (.ldc2_w 49, 3) := by decide +kernel
theorem own_d1_22 : decode prog_3_method_3_code 22 = .ok (.iload_n 0, 1) := by decide +kernel
theorem own_d1_23 : decode prog_3_method_3_code 23 = .ok (.i2d, 1) := by decide +kernel
theorem own_d1_24 : decode prog_3_method_3_code 24 = .ok (.dmul, 1) := by decide +kernel
theorem own_d1_25 : decode prog_3_method_3_code 25 = .ok (.ldc2_w 51, 3) := by decide +kernel
theorem own_d1_28 : decode prog_3_method_3_code 28 = .ok (.iload_n 0, 1) := by decide +kernel
theorem own_d1_29 : decode prog_3_method_3_code 29 = .ok (.i2d, 1) := by decide +kernel
theorem own_d1_30 : decode prog_3_method_3_code 30 = .ok (.dadd, 1) := by decide +kernel
theorem own_d1_31 : decode prog_3_method_3_code 31 = .ok (.ddiv, 1) := by decide +kernel
theorem own_d1_32 : decode prog_3_method_3_code 32 = .ok (.dreturn, 1) := by decide +kernel
def own_r1_0 (p1_0 : Int32) : UInt64 := (FP.ddiv (FP.dmul (4636807660098813952 : UInt64) (FP.i2d p1_0)) (FP.dadd (4636737291354636288 : UInt64) (FP.i2d p1_0)))
theorem own_ef1 (m : MethodId) (p1_0 : Int32) : entryFrame m #[(.int p1_0)] 1 = mkF m 0 #[.val (.int p1_0)] [] := by first | (simp [entryFrame, mkF, argsToLocals, Value.category]; done) | rfl
def own_Q1 (Z : State) (p1_0 : Int32) (h0 : Heap) (n0 : Nat) (v : Option Value) (h : Heap) (L : List Loc) : Prop := v = some (.double (own_r1_0 p1_0)) ∧ Fr n0 L ∧ h = h0
set_option maxRecDepth 65536 in
set_option maxHeartbeats 40000000 in
theorem own_rm1 (l : Launch) (Z : State) (a0 : Array Value) (hw : ∀ d ∈ tables_1, d.before a0 Z = true) (ws : List Jvm.Cond) (p1_0 : Int32) (h0 : Heap) (n0 : Nat) (Z0 : n0 ≤ h0.size) (hc2 : ¬ (p1_0 < (1 : Int32))) (nn24 : NoNaN64 (FP.dmul (4636807660098813952 : UInt64) (FP.i2d p1_0))) (nn30 : NoNaN64 (FP.dadd (4636737291354636288 : UInt64) (FP.i2d p1_0))) (nn31 : NoNaN64 (FP.ddiv (FP.dmul (4636807660098813952 : UInt64) (FP.i2d p1_0)) (FP.dadd (4636737291354636288 : UInt64) (FP.i2d p1_0)))) :
    MetFree l (⟨"com/example/dipper/dipper/Bm25", "queryFactor", "(I)D"⟩ : MethodName) (head1 (Jvm.Cond.code (⟨"com/example/dipper/dipper/Bm25", "queryFactor", "(I)D"⟩ : MethodName) prog_3_method_3_code 1 (some .double) :: ws) ({ frames := 0, cells := 0, slots := 0, locals := 0 } : Room)) (fun a U => a = #[(.int p1_0)] ∧ Z.Warmed39 U.vm ∧ U.heap = h0) (fun _ _ _ _ _ => True) (fun _ U o U' => ∃ v L, o = .returned v ∧ own_Q1 Z p1_0 h0 n0 v U'.heap L ∧ FrameEnd U o U' L ({ frames := 0, cells := 0, slots := 0, locals := 0 } : Room).cells ({ frames := 0, cells := 0, slots := 0, locals := 0 } : Room).slots) := by
  refine MetFree.of_bodySF (plainFor_of_name own_pn0) hisR ?_
  intro p e s m args below meth c s₁ Bd hml0 hP hK
  obtain ⟨rfl, hZ, hh⟩ := hP
  have hx := Bd.exec
  have hby := Bd.bytes
  have hml : c.maxLocals = 1 := hml0
  have hown : s.vm.findClass "com/example/dipper/dipper/Bm25" = some m.cls := findClass_of_methodNamed Bd.named
  have hnm := (name_of_methodNamed Bd.named Bd.method).1
  have X0 : Stand p l e ({ frames := 0, cells := 0, slots := 0, locals := 0 } : Room) s m #[(.int p1_0)] below meth c s₁ [] 0 0 := Stand.of_body Bd
  have e0 : s₁.heap = h0 := by rw [← hh, Bd.state]; rfl
  have N0 := Fr.nil n0
  have Zr : h0.size ≤ h0.size := Nat.le_refl _
  have pre0 : ∀ t, Steps p.tables e below (s₁.setTop (mkF m 0 #[.val (.int p1_0)] [])) t → Steps p.tables e below (s₁.setTop (entryFrame m #[(.int p1_0)] 1)) t := fun t k => castTop (own_ef1 m p1_0) k
  obtain ⟨fs, hr, hrun, hended, hW, hsame⟩ := X0.leave (v := some (.double (FP.ddiv (FP.dmul (4636807660098813952 : UInt64) (FP.i2d p1_0)) (FP.dadd (4636737291354636288 : UInt64) (FP.i2d p1_0))))) (fun h => by rw [Bd.returns] at h; cases h)
  refine ⟨_, _, pre0 _ (?_), hrun, hended, _, _, rfl, ?_, ⟨_, rfl⟩, hW, hsame.mono (by decide) (by decide)⟩
  · show Steps p.tables e below (s₁.setTop (mkF m 0 #[.val (.int p1_0)] [])) _
    refine XS.iloadN X0.here hx rfl (hb hby own_d1_0) rfl ?_
    show Steps p.tables e below (s₁.setTop (mkF m 1 #[.val (.int p1_0)] [(.int p1_0)])) _
    refine XS.iconst X0.here hx rfl (hb hby own_d1_1) ?_
    show Steps p.tables e below (s₁.setTop (mkF m 2 #[.val (.int p1_0)] [(.int (1 : Int32)), (.int p1_0)])) _
    refine XS.icmpYes X0.here hx rfl (pc0 := 2) (pc' := 19) rfl (hb hby own_d1_2) rfl (XT.ii_ge_t hc2) (by decide) (by decide) ?_
    show Steps p.tables e below (s₁.setTop (mkF m 19 #[.val (.int p1_0)] [])) _
    refine X0.ldc2DoubleC hx hown (mvT hZ (hw _ (List.mem_of_getElem? (i := 4) rfl))) (g := (mkF m 19 #[.val (.int p1_0)] [])) rfl (hb hby own_d1_19) _ ?_
    show Steps p.tables e below (s₁.setTop (mkF m 22 #[.val (.int p1_0)] [(.double (4636807660098813952 : UInt64))])) _
    refine XS.iloadN X0.here hx rfl (hb hby own_d1_22) rfl ?_
    show Steps p.tables e below (s₁.setTop (mkF m 23 #[.val (.int p1_0)] [(.int p1_0), (.double (4636807660098813952 : UInt64))])) _
    refine XS.i2dS X0.here hx rfl (hb hby own_d1_23) rfl rfl ?_
    show Steps p.tables e below (s₁.setTop (mkF m 24 #[.val (.int p1_0)] [(.double (FP.i2d p1_0)), (.double (4636807660098813952 : UInt64))])) _
    refine XS.dmulS X0.here hx rfl (hb hby own_d1_24) rfl nn24 rfl ?_
    show Steps p.tables e below (s₁.setTop (mkF m 25 #[.val (.int p1_0)] [(.double (FP.dmul (4636807660098813952 : UInt64) (FP.i2d p1_0)))])) _
    refine X0.ldc2DoubleC hx hown (mvT hZ (hw _ (List.mem_of_getElem? (i := 5) rfl))) (g := (mkF m 25 #[.val (.int p1_0)] [(.double (FP.dmul (4636807660098813952 : UInt64) (FP.i2d p1_0)))])) rfl (hb hby own_d1_25) _ ?_
    show Steps p.tables e below (s₁.setTop (mkF m 28 #[.val (.int p1_0)] [(.double (4636737291354636288 : UInt64)), (.double (FP.dmul (4636807660098813952 : UInt64) (FP.i2d p1_0)))])) _
    refine XS.iloadN X0.here hx rfl (hb hby own_d1_28) rfl ?_
    show Steps p.tables e below (s₁.setTop (mkF m 29 #[.val (.int p1_0)] [(.int p1_0), (.double (4636737291354636288 : UInt64)), (.double (FP.dmul (4636807660098813952 : UInt64) (FP.i2d p1_0)))])) _
    refine XS.i2dS X0.here hx rfl (hb hby own_d1_29) rfl rfl ?_
    show Steps p.tables e below (s₁.setTop (mkF m 30 #[.val (.int p1_0)] [(.double (FP.i2d p1_0)), (.double (4636737291354636288 : UInt64)), (.double (FP.dmul (4636807660098813952 : UInt64) (FP.i2d p1_0)))])) _
    refine XS.daddS X0.here hx rfl (hb hby own_d1_30) rfl nn30 rfl ?_
    show Steps p.tables e below (s₁.setTop (mkF m 31 #[.val (.int p1_0)] [(.double (FP.dadd (4636737291354636288 : UInt64) (FP.i2d p1_0))), (.double (FP.dmul (4636807660098813952 : UInt64) (FP.i2d p1_0)))])) _
    refine XS.ddivS X0.here hx rfl (hb hby own_d1_31) rfl nn31 rfl ?_
    show Steps p.tables e below (s₁.setTop (mkF m 32 #[.val (.int p1_0)] [(.double (FP.ddiv (FP.dmul (4636807660098813952 : UInt64) (FP.i2d p1_0)) (FP.dadd (4636737291354636288 : UInt64) (FP.i2d p1_0))))])) _
    exact own_retD X0 hx Bd.returns (hb hby own_d1_32) hr
  · show own_Q1 Z p1_0 h0 n0 _ s₁.heap _
    rw [e0]
    exact ⟨rfl, N0, rfl⟩
theorem own_pn1 : plainName "com/example/dipper/dipper/Bm25QueryFactorPinLaw" = true := by first | (simp [plainName, overriddenIn]; done) | decide +kernel
theorem own_pd0 : parseMethodDescriptor "(I)D" = some ⟨[.int], some .double⟩ := by decide +kernel
def own_v0_0 (p0_0 : Int32) : Int32 := (p0_0 &&& (2147483647 : Int32))
def own_j0_1 (p0_0 : Int32) : Int32 := if (own_v0_0 p0_0) = (0 : Int32) then (1 : Int32) else (own_v0_0 p0_0)
def own_v0_2 (p0_0 : Int32) : Int32 := ((p0_0 &&& (127 : Int32)) + (1 : Int32))
def own_j0_3 (p0_0 : Int32) (p0_1 : Int32) : Int32 := if (p0_1 &&& (1 : Int32)) = (0 : Int32) then (own_j0_1 p0_0) else (own_v0_2 p0_0)
def own_v0_4 (p0_0 : Int32) (p0_1 : Int32) : UInt64 := (own_r1_0 (own_j0_3 p0_0 p0_1))
def own_v0_5 (p0_0 : Int32) (p0_1 : Int32) : UInt64 := (FP.l2d ((101 : Int64) * (own_j0_3 p0_0 p0_1).toInt64))
def own_v0_6 (p0_0 : Int32) (p0_1 : Int32) : UInt64 := (FP.l2d ((100 : Int64) + (own_j0_3 p0_0 p0_1).toInt64))
def own_v0_7 (p0_0 : Int32) (p0_1 : Int32) : UInt64 := (FP.dsub (FP.dmul (own_v0_4 p0_0 p0_1) (own_v0_6 p0_0 p0_1)) (own_v0_5 p0_0 p0_1))
def own_v0_8 (p0_0 : Int32) (p0_1 : Int32) : UInt64 := (FP.dmul (own_v0_5 p0_0 p0_1) (4377498837804122112 : UInt64))
theorem own_ef0 (m : MethodId) (p0_0 : Int32) (p0_1 : Int32) : entryFrame m #[(.int p0_0), (.int p0_1)] maxLocals = mkF m 0 #[.val (.int p0_0), .val (.int p0_1), .unset, .unset, .unset, .unset, .unset, .unset, .unset, .unset, .unset, .unset, .unset, .unset, .unset, .unset] [] := by first | (simp [entryFrame, mkF, argsToLocals, Value.category, maxLocals]; done) | rfl
def own_Q0 (Z : State) (p0_0 : Int32) (p0_1 : Int32) (h0 : Heap) (n0 : Nat) (v : Option Value) (h : Heap) (L : List Loc) : Prop := v = some (.int (1 : Int32)) ∧ Fr n0 L
set_option maxRecDepth 65536 in
set_option maxHeartbeats 40000000 in
theorem own_rm0 (l : Launch) (Z : State) (a0 : Array Value) (hw : ∀ d ∈ tables_1, d.before a0 Z = true) (ws : List Jvm.Cond) (p0_0 : Int32) (p0_1 : Int32) (h0 : Heap) (n0 : Nat) (Z0 : n0 ≤ h0.size) (c28_hc2 : ¬ ((own_j0_3 p0_0 p0_1) < (1 : Int32))) (c28_nn24 : NoNaN64 (FP.dmul (4636807660098813952 : UInt64) (FP.i2d (own_j0_3 p0_0 p0_1)))) (c28_nn30 : NoNaN64 (FP.dadd (4636737291354636288 : UInt64) (FP.i2d (own_j0_3 p0_0 p0_1)))) (c28_nn31 : NoNaN64 (FP.ddiv (FP.dmul (4636807660098813952 : UInt64) (FP.i2d (own_j0_3 p0_0 p0_1))) (FP.dadd (4636737291354636288 : UInt64) (FP.i2d (own_j0_3 p0_0 p0_1))))) (nn53 : NoNaN64 (FP.dmul (own_v0_4 p0_0 p0_1) (own_v0_6 p0_0 p0_1))) (nn56 : NoNaN64 (FP.dsub (FP.dmul (own_v0_4 p0_0 p0_1) (own_v0_6 p0_0 p0_1)) (own_v0_5 p0_0 p0_1))) (nn64 : NoNaN64 (FP.dmul (own_v0_5 p0_0 p0_1) (4377498837804122112 : UInt64))) (hc72 : ¬ ((0 : Int32) < (cmpValue (FP.dcmp (own_v0_7 p0_0 p0_1) (own_v0_8 p0_0 p0_1)) .g))) (hc81 : ¬ ((0 : Int32) < (cmpValue (FP.dcmp (FP.dneg (own_v0_7 p0_0 p0_1)) (own_v0_8 p0_0 p0_1)) .g))) (hc94 : ¬ ((0 : Int32) < (cmpValue (FP.dcmp (4607182418800017408 : UInt64) (own_v0_4 p0_0 p0_1)) .g))) (hc102 : (cmpValue (FP.dcmp (own_v0_4 p0_0 p0_1) (4636807660098813952 : UInt64)) .g) < (0 : Int32)) (hc120 : (own_j0_3 p0_0 p0_1) = (1 : Int32) → (cmpValue (FP.dcmp (own_v0_4 p0_0 p0_1) (4607182418800017408 : UInt64)) .l) = (0 : Int32)) :
    MetFree l x (head1 (Jvm.Cond.code x code maxLocals ret :: ws) room_1) (fun a U => a = #[(.int p0_0), (.int p0_1)] ∧ Z.Warmed39 U.vm ∧ U.heap = h0) (fun _ _ _ _ _ => True) (fun _ U o U' => ∃ v L, o = .returned v ∧ own_Q0 Z p0_0 p0_1 h0 n0 v U'.heap L ∧ FrameEnd U o U' L room_1.cells room_1.slots) := by
  refine MetFree.of_bodySF (plainFor_of_name own_pn1) hisR ?_
  intro p e s m args below meth c s₁ Bd hml0 hP hK
  obtain ⟨rfl, hZ, hh⟩ := hP
  have hx := Bd.exec
  have hby := Bd.bytes
  have hml : c.maxLocals = 16 := hml0
  have hown : s.vm.findClass "com/example/dipper/dipper/Bm25QueryFactorPinLaw" = some m.cls := findClass_of_methodNamed Bd.named
  have hnm := (name_of_methodNamed Bd.named Bd.method).1
  have X0 : Stand p l e room_1 s m #[(.int p0_0), (.int p0_1)] below meth c s₁ [] 0 0 := Stand.of_body Bd
  have e0 : s₁.heap = h0 := by rw [← hh, Bd.state]; rfl
  have N0 := Fr.nil n0
  have Zr : h0.size ≤ h0.size := Nat.le_refl _
  have pre0 : ∀ t, Steps p.tables e below (s₁.setTop (mkF m 0 #[.val (.int p0_0), .val (.int p0_1), .unset, .unset, .unset, .unset, .unset, .unset, .unset, .unset, .unset, .unset, .unset, .unset, .unset, .unset] [])) t → Steps p.tables e below (s₁.setTop (entryFrame m #[(.int p0_0), (.int p0_1)] maxLocals)) t := fun t k => castTop (own_ef0 m p0_0 p0_1) k
  obtain ⟨Tj0_1, lj0_1, Xj0_1, Nj0_1, ej0_1, stj0_1⟩ : ∃ (T' : State) (l' : List Loc), Stand p l e room_1 s m #[(.int p0_0), (.int p0_1)] below meth c T' l' 0 0 ∧ Fr n0 l' ∧ T'.heap = h0 ∧ ∀ target, Steps p.tables e below (T'.setTop (mkF m 27 #[.val (.int p0_0), .val (.int p0_1), .val (.int (own_j0_3 p0_0 p0_1)), .unset, .unset, .unset, .unset, .unset, .unset, .unset, .unset, .unset, .unset, .unset, .unset, .unset] [])) target → Steps p.tables e below (s₁.setTop (mkF m 3 #[.val (.int p0_0), .val (.int p0_1), .unset, .unset, .unset, .unset, .unset, .unset, .unset, .unset, .unset, .unset, .unset, .unset, .unset, .unset] [(.int (p0_1 &&& (1 : Int32)))])) target := by
    by_cases hj0_1 : (p0_1 &&& (1 : Int32)) = (0 : Int32)
    · obtain ⟨Tj0_2, lj0_2, Xj0_2, Nj0_2, ej0_2, stj0_2⟩ : ∃ (T' : State) (l' : List Loc), Stand p l e room_1 s m #[(.int p0_0), (.int p0_1)] below meth c T' l' 0 0 ∧ Fr n0 l' ∧ T'.heap = h0 ∧ ∀ target, Steps p.tables e below (T'.setTop (mkF m 27 #[.val (.int p0_0), .val (.int p0_1), .val (.int (own_j0_1 p0_0)), .unset, .unset, .unset, .unset, .unset, .unset, .unset, .unset, .unset, .unset, .unset, .unset, .unset] [])) target → Steps p.tables e below (s₁.setTop (mkF m 22 #[.val (.int p0_0), .val (.int p0_1), .val (.int (own_v0_0 p0_0)), .unset, .unset, .unset, .unset, .unset, .unset, .unset, .unset, .unset, .unset, .unset, .unset, .unset] [(.int (own_v0_0 p0_0))])) target := by
        by_cases hj0_2 : (own_v0_0 p0_0) = (0 : Int32)
        · refine ⟨_, _, X0, N0, e0, fun target kt => ?_⟩
          rw [(show (own_j0_1 p0_0) = (1 : Int32) from if_pos hj0_2)] at kt
          show Steps p.tables e below (s₁.setTop (mkF m 22 #[.val (.int p0_0), .val (.int p0_1), .val (.int (own_v0_0 p0_0)), .unset, .unset, .unset, .unset, .unset, .unset, .unset, .unset, .unset, .unset, .unset, .unset, .unset] [(.int (own_v0_0 p0_0))])) _
          refine XS.ifNo X0.here hx rfl (hb hby at_22) rfl (XT.i0_ne_f hj0_2) ?_
          show Steps p.tables e below (s₁.setTop (mkF m 25 #[.val (.int p0_0), .val (.int p0_1), .val (.int (own_v0_0 p0_0)), .unset, .unset, .unset, .unset, .unset, .unset, .unset, .unset, .unset, .unset, .unset, .unset, .unset] [])) _
          refine XS.iconst X0.here hx rfl (hb hby at_25) ?_
          show Steps p.tables e below (s₁.setTop (mkF m 26 #[.val (.int p0_0), .val (.int p0_1), .val (.int (own_v0_0 p0_0)), .unset, .unset, .unset, .unset, .unset, .unset, .unset, .unset, .unset, .unset, .unset, .unset, .unset] [(.int (1 : Int32))])) _
          refine XS.istoreN X0.here hx rfl (hb hby at_26) rfl (l' := #[.val (.int p0_0), .val (.int p0_1), .val (.int (1 : Int32)), .unset, .unset, .unset, .unset, .unset, .unset, .unset, .unset, .unset, .unset, .unset, .unset, .unset]) rfl ?_
          exact kt
        · refine ⟨_, _, X0, N0, e0, fun target kt => ?_⟩
          rw [(show (own_j0_1 p0_0) = (own_v0_0 p0_0) from if_neg hj0_2)] at kt
          show Steps p.tables e below (s₁.setTop (mkF m 22 #[.val (.int p0_0), .val (.int p0_1), .val (.int (own_v0_0 p0_0)), .unset, .unset, .unset, .unset, .unset, .unset, .unset, .unset, .unset, .unset, .unset, .unset, .unset] [(.int (own_v0_0 p0_0))])) _
          refine XS.ifYes X0.here hx rfl (pc0 := 22) (pc' := 27) rfl (hb hby at_22) rfl (XT.i0_ne_t hj0_2) (by decide) (by decide) ?_
          exact kt
      refine ⟨_, _, Xj0_2, Nj0_2, ej0_2, fun target kt => ?_⟩
      rw [(show (own_j0_3 p0_0 p0_1) = (own_j0_1 p0_0) from if_pos hj0_1)] at kt
      show Steps p.tables e below (s₁.setTop (mkF m 3 #[.val (.int p0_0), .val (.int p0_1), .unset, .unset, .unset, .unset, .unset, .unset, .unset, .unset, .unset, .unset, .unset, .unset, .unset, .unset] [(.int (p0_1 &&& (1 : Int32)))])) _
      refine XS.ifYes X0.here hx rfl (pc0 := 3) (pc' := 16) rfl (hb hby at_3) rfl (XT.i0_eq_t hj0_1) (by decide) (by decide) ?_
      show Steps p.tables e below (s₁.setTop (mkF m 16 #[.val (.int p0_0), .val (.int p0_1), .unset, .unset, .unset, .unset, .unset, .unset, .unset, .unset, .unset, .unset, .unset, .unset, .unset, .unset] [])) _
      refine XS.iloadN X0.here hx rfl (hb hby at_16) rfl ?_
      show Steps p.tables e below (s₁.setTop (mkF m 17 #[.val (.int p0_0), .val (.int p0_1), .unset, .unset, .unset, .unset, .unset, .unset, .unset, .unset, .unset, .unset, .unset, .unset, .unset, .unset] [(.int p0_0)])) _
      refine X0.ldcInt hx hown (mvT hZ (hw _ (List.mem_of_getElem? (i := 10) rfl))) (g := (mkF m 17 #[.val (.int p0_0), .val (.int p0_1), .unset, .unset, .unset, .unset, .unset, .unset, .unset, .unset, .unset, .unset, .unset, .unset, .unset, .unset] [(.int p0_0)])) rfl (hb hby at_17) _ ?_
      show Steps p.tables e below (s₁.setTop (mkF m 19 #[.val (.int p0_0), .val (.int p0_1), .unset, .unset, .unset, .unset, .unset, .unset, .unset, .unset, .unset, .unset, .unset, .unset, .unset, .unset] [(.int (2147483647 : Int32)), (.int p0_0)])) _
      refine XS.iand X0.here hx rfl (hb hby at_19) rfl ?_
      show Steps p.tables e below (s₁.setTop (mkF m 20 #[.val (.int p0_0), .val (.int p0_1), .unset, .unset, .unset, .unset, .unset, .unset, .unset, .unset, .unset, .unset, .unset, .unset, .unset, .unset] [(.int (p0_0 &&& (2147483647 : Int32)))])) _
      refine XS.istoreN X0.here hx rfl (hb hby at_20) rfl (l' := #[.val (.int p0_0), .val (.int p0_1), .val (.int (own_v0_0 p0_0)), .unset, .unset, .unset, .unset, .unset, .unset, .unset, .unset, .unset, .unset, .unset, .unset, .unset]) rfl ?_
      show Steps p.tables e below (s₁.setTop (mkF m 21 #[.val (.int p0_0), .val (.int p0_1), .val (.int (own_v0_0 p0_0)), .unset, .unset, .unset, .unset, .unset, .unset, .unset, .unset, .unset, .unset, .unset, .unset, .unset] [])) _
      refine XS.iloadN X0.here hx rfl (hb hby at_21) rfl ?_
      show Steps p.tables e below (s₁.setTop (mkF m 22 #[.val (.int p0_0), .val (.int p0_1), .val (.int (own_v0_0 p0_0)), .unset, .unset, .unset, .unset, .unset, .unset, .unset, .unset, .unset, .unset, .unset, .unset, .unset] [(.int (own_v0_0 p0_0))])) _
      refine stj0_2 _ ?_
      exact kt
    · refine ⟨_, _, X0, N0, e0, fun target kt => ?_⟩
      rw [(show (own_j0_3 p0_0 p0_1) = (own_v0_2 p0_0) from if_neg hj0_1)] at kt
      show Steps p.tables e below (s₁.setTop (mkF m 3 #[.val (.int p0_0), .val (.int p0_1), .unset, .unset, .unset, .unset, .unset, .unset, .unset, .unset, .unset, .unset, .unset, .unset, .unset, .unset] [(.int (p0_1 &&& (1 : Int32)))])) _
      refine XS.ifNo X0.here hx rfl (hb hby at_3) rfl (XT.i0_eq_f hj0_1) ?_
      show Steps p.tables e below (s₁.setTop (mkF m 6 #[.val (.int p0_0), .val (.int p0_1), .unset, .unset, .unset, .unset, .unset, .unset, .unset, .unset, .unset, .unset, .unset, .unset, .unset, .unset] [])) _
      refine XS.iloadN X0.here hx rfl (hb hby at_6) rfl ?_
      show Steps p.tables e below (s₁.setTop (mkF m 7 #[.val (.int p0_0), .val (.int p0_1), .unset, .unset, .unset, .unset, .unset, .unset, .unset, .unset, .unset, .unset, .unset, .unset, .unset, .unset] [(.int p0_0)])) _
      refine XS.bipush X0.here hx rfl (hb hby at_7) ?_
      show Steps p.tables e below (s₁.setTop (mkF m 9 #[.val (.int p0_0), .val (.int p0_1), .unset, .unset, .unset, .unset, .unset, .unset, .unset, .unset, .unset, .unset, .unset, .unset, .unset, .unset] [(.int (127 : Int32)), (.int p0_0)])) _
      refine XS.iand X0.here hx rfl (hb hby at_9) rfl ?_
      show Steps p.tables e below (s₁.setTop (mkF m 10 #[.val (.int p0_0), .val (.int p0_1), .unset, .unset, .unset, .unset, .unset, .unset, .unset, .unset, .unset, .unset, .unset, .unset, .unset, .unset] [(.int (p0_0 &&& (127 : Int32)))])) _
      refine XS.iconst X0.here hx rfl (hb hby at_10) ?_
      show Steps p.tables e below (s₁.setTop (mkF m 11 #[.val (.int p0_0), .val (.int p0_1), .unset, .unset, .unset, .unset, .unset, .unset, .unset, .unset, .unset, .unset, .unset, .unset, .unset, .unset] [(.int (1 : Int32)), (.int (p0_0 &&& (127 : Int32)))])) _
      refine XS.iadd X0.here hx rfl (hb hby at_11) rfl ?_
      show Steps p.tables e below (s₁.setTop (mkF m 12 #[.val (.int p0_0), .val (.int p0_1), .unset, .unset, .unset, .unset, .unset, .unset, .unset, .unset, .unset, .unset, .unset, .unset, .unset, .unset] [(.int ((p0_0 &&& (127 : Int32)) + (1 : Int32)))])) _
      refine XS.istoreN X0.here hx rfl (hb hby at_12) rfl (l' := #[.val (.int p0_0), .val (.int p0_1), .val (.int (own_v0_2 p0_0)), .unset, .unset, .unset, .unset, .unset, .unset, .unset, .unset, .unset, .unset, .unset, .unset, .unset]) rfl ?_
      show Steps p.tables e below (s₁.setTop (mkF m 13 #[.val (.int p0_0), .val (.int p0_1), .val (.int (own_v0_2 p0_0)), .unset, .unset, .unset, .unset, .unset, .unset, .unset, .unset, .unset, .unset, .unset, .unset, .unset] [])) _
      refine XS.goto X0.here hx rfl (pc0 := 13) (pc' := 27) rfl (hb hby at_13) (by decide) (by decide) ?_
      exact kt
  obtain ⟨_, _, ⟨Tk0_3, Lk0_3, kk0_3, nk0_3⟩, -, Xk0_3, ⟨Lck0_3, hQk0_3, lk0_3, yk0_3, zk0_3⟩, stk0_3⟩ := Jvm.LawKit.callS Xj0_1 hx (y := (⟨"com/example/dipper/dipper/Bm25", "queryFactor", "(I)D"⟩ : MethodName)) hown (mvT hZ (hw _ (List.mem_of_getElem? (i := 0) rfl))) (mvT hZ (hw _ (List.mem_of_getElem? (i := 1) rfl))) (mvT hZ (hw _ (List.mem_of_getElem? (i := 2) rfl))) (mvT hZ (hw _ (List.mem_of_getElem? (i := 3) rfl))) (by decide) (backOf (W := 0) (own_rm1 l Z a0 hw [] (own_j0_3 p0_0 p0_1) h0 n0 Z0 c28_hc2 c28_nn24 c28_nn30 c28_nn31) hZ (hw _ (List.mem_of_getElem? (i := 3) rfl)) (hw _ (List.mem_of_getElem? (i := 2) rfl)) (by decide) (by decide)) (g := (mkF m 28 #[.val (.int p0_0), .val (.int p0_1), .val (.int (own_j0_3 p0_0 p0_1)), .unset, .unset, .unset, .unset, .unset, .unset, .unset, .unset, .unset, .unset, .unset, .unset, .unset] [(.int (own_j0_3 p0_0 p0_1))])) rfl (by rw [hml]; rfl) (argsL := [(.int (own_j0_3 p0_0 p0_1))]) (rest := []) (lenOf own_pd0 rfl) rfl (by show 2 * 0 + _ ≤ _; exact Nat.le_of_eq rfl) (hb hby at_28) (fun _ _ => ⟨rfl, ej0_1, (by decide : 0 + 0 ≤ _), (by decide : 0 + 0 ≤ _)⟩)
  dsimp only [Pt.U, Pt.locs, Pt.cells, Pt.slots] at Xk0_3 lk0_3 yk0_3 zk0_3 stk0_3 hQk0_3
  subst lk0_3 yk0_3 zk0_3
  obtain ⟨rfl, Nk0_3q, ek0_3⟩ := hQk0_3
  have Nk0_3 := Fr.app Nj0_1 Nk0_3q
  obtain ⟨Tj0_4, lj0_4, Xj0_4, Nj0_4, ej0_4, stj0_4⟩ : ∃ (T' : State) (l' : List Loc), Stand p l e room_1 s m #[(.int p0_0), (.int p0_1)] below meth c T' l' 0 0 ∧ Fr n0 l' ∧ T'.heap = h0 ∧ ∀ target, Steps p.tables e below (T'.setTop (mkF m 128 #[.val (.int p0_0), .val (.int p0_1), .val (.int (own_j0_3 p0_0 p0_1)), .val (.double (own_v0_4 p0_0 p0_1)), .second, .val (.double (own_v0_5 p0_0 p0_1)), .second, .val (.double (own_v0_6 p0_0 p0_1)), .second, .val (.double (own_v0_7 p0_0 p0_1)), .second, .val (.double (own_v0_8 p0_0 p0_1)), .second, .val (.int (1 : Int32)), .val (.int (1 : Int32)), .unset] [(.int (1 : Int32))])) target → Steps p.tables e below (Tk0_3.setTop (mkF m 114 #[.val (.int p0_0), .val (.int p0_1), .val (.int (own_j0_3 p0_0 p0_1)), .val (.double (own_v0_4 p0_0 p0_1)), .second, .val (.double (own_v0_5 p0_0 p0_1)), .second, .val (.double (own_v0_6 p0_0 p0_1)), .second, .val (.double (own_v0_7 p0_0 p0_1)), .second, .val (.double (own_v0_8 p0_0 p0_1)), .second, .val (.int (1 : Int32)), .val (.int (1 : Int32)), .unset] [(.int (1 : Int32)), (.int (own_j0_3 p0_0 p0_1))])) target := by
    by_cases hj0_4 : (own_j0_3 p0_0 p0_1) = (1 : Int32)
    · refine ⟨_, _, Xk0_3, Nk0_3, ek0_3, fun target kt => ?_⟩
      show Steps p.tables e below (Tk0_3.setTop (mkF m 114 #[.val (.int p0_0), .val (.int p0_1), .val (.int (own_j0_3 p0_0 p0_1)), .val (.double (own_v0_4 p0_0 p0_1)), .second, .val (.double (own_v0_5 p0_0 p0_1)), .second, .val (.double (own_v0_6 p0_0 p0_1)), .second, .val (.double (own_v0_7 p0_0 p0_1)), .second, .val (.double (own_v0_8 p0_0 p0_1)), .second, .val (.int (1 : Int32)), .val (.int (1 : Int32)), .unset] [(.int (1 : Int32)), (.int (own_j0_3 p0_0 p0_1))])) _
      refine XS.icmpNo Xk0_3.here hx rfl (hb hby at_114) rfl (XT.ii_ne_f hj0_4) ?_
      show Steps p.tables e below (Tk0_3.setTop (mkF m 117 #[.val (.int p0_0), .val (.int p0_1), .val (.int (own_j0_3 p0_0 p0_1)), .val (.double (own_v0_4 p0_0 p0_1)), .second, .val (.double (own_v0_5 p0_0 p0_1)), .second, .val (.double (own_v0_6 p0_0 p0_1)), .second, .val (.double (own_v0_7 p0_0 p0_1)), .second, .val (.double (own_v0_8 p0_0 p0_1)), .second, .val (.int (1 : Int32)), .val (.int (1 : Int32)), .unset] [])) _
      refine XS.dloadN Xk0_3.here hx rfl (hb hby at_117) rfl ?_
      show Steps p.tables e below (Tk0_3.setTop (mkF m 118 #[.val (.int p0_0), .val (.int p0_1), .val (.int (own_j0_3 p0_0 p0_1)), .val (.double (own_v0_4 p0_0 p0_1)), .second, .val (.double (own_v0_5 p0_0 p0_1)), .second, .val (.double (own_v0_6 p0_0 p0_1)), .second, .val (.double (own_v0_7 p0_0 p0_1)), .second, .val (.double (own_v0_8 p0_0 p0_1)), .second, .val (.int (1 : Int32)), .val (.int (1 : Int32)), .unset] [(.double (own_v0_4 p0_0 p0_1))])) _
      refine XS.dconst1 Xk0_3.here hx rfl (hb hby at_118) (v := (4607182418800017408 : UInt64)) (by decide +kernel) ?_
      show Steps p.tables e below (Tk0_3.setTop (mkF m 119 #[.val (.int p0_0), .val (.int p0_1), .val (.int (own_j0_3 p0_0 p0_1)), .val (.double (own_v0_4 p0_0 p0_1)), .second, .val (.double (own_v0_5 p0_0 p0_1)), .second, .val (.double (own_v0_6 p0_0 p0_1)), .second, .val (.double (own_v0_7 p0_0 p0_1)), .second, .val (.double (own_v0_8 p0_0 p0_1)), .second, .val (.int (1 : Int32)), .val (.int (1 : Int32)), .unset] [(.double (4607182418800017408 : UInt64)), (.double (own_v0_4 p0_0 p0_1))])) _
      refine XS.dcmpS Xk0_3.here hx rfl (hb hby at_119) rfl rfl ?_
      show Steps p.tables e below (Tk0_3.setTop (mkF m 120 #[.val (.int p0_0), .val (.int p0_1), .val (.int (own_j0_3 p0_0 p0_1)), .val (.double (own_v0_4 p0_0 p0_1)), .second, .val (.double (own_v0_5 p0_0 p0_1)), .second, .val (.double (own_v0_6 p0_0 p0_1)), .second, .val (.double (own_v0_7 p0_0 p0_1)), .second, .val (.double (own_v0_8 p0_0 p0_1)), .second, .val (.int (1 : Int32)), .val (.int (1 : Int32)), .unset] [(.int (cmpValue (FP.dcmp (own_v0_4 p0_0 p0_1) (4607182418800017408 : UInt64)) .l))])) _
      refine XS.ifNo Xk0_3.here hx rfl (hb hby at_120) rfl (XT.i0_ne_f (hc120 hj0_4)) ?_
      show Steps p.tables e below (Tk0_3.setTop (mkF m 123 #[.val (.int p0_0), .val (.int p0_1), .val (.int (own_j0_3 p0_0 p0_1)), .val (.double (own_v0_4 p0_0 p0_1)), .second, .val (.double (own_v0_5 p0_0 p0_1)), .second, .val (.double (own_v0_6 p0_0 p0_1)), .second, .val (.double (own_v0_7 p0_0 p0_1)), .second, .val (.double (own_v0_8 p0_0 p0_1)), .second, .val (.int (1 : Int32)), .val (.int (1 : Int32)), .unset] [])) _
      refine XS.iconst Xk0_3.here hx rfl (hb hby at_123) ?_
      show Steps p.tables e below (Tk0_3.setTop (mkF m 124 #[.val (.int p0_0), .val (.int p0_1), .val (.int (own_j0_3 p0_0 p0_1)), .val (.double (own_v0_4 p0_0 p0_1)), .second, .val (.double (own_v0_5 p0_0 p0_1)), .second, .val (.double (own_v0_6 p0_0 p0_1)), .second, .val (.double (own_v0_7 p0_0 p0_1)), .second, .val (.double (own_v0_8 p0_0 p0_1)), .second, .val (.int (1 : Int32)), .val (.int (1 : Int32)), .unset] [(.int (1 : Int32))])) _
      refine XS.goto Xk0_3.here hx rfl (pc0 := 124) (pc' := 128) rfl (hb hby at_124) (by decide) (by decide) ?_
      exact kt
    · refine ⟨_, _, Xk0_3, Nk0_3, ek0_3, fun target kt => ?_⟩
      show Steps p.tables e below (Tk0_3.setTop (mkF m 114 #[.val (.int p0_0), .val (.int p0_1), .val (.int (own_j0_3 p0_0 p0_1)), .val (.double (own_v0_4 p0_0 p0_1)), .second, .val (.double (own_v0_5 p0_0 p0_1)), .second, .val (.double (own_v0_6 p0_0 p0_1)), .second, .val (.double (own_v0_7 p0_0 p0_1)), .second, .val (.double (own_v0_8 p0_0 p0_1)), .second, .val (.int (1 : Int32)), .val (.int (1 : Int32)), .unset] [(.int (1 : Int32)), (.int (own_j0_3 p0_0 p0_1))])) _
      refine XS.icmpYes Xk0_3.here hx rfl (pc0 := 114) (pc' := 123) rfl (hb hby at_114) rfl (XT.ii_ne_t hj0_4) (by decide) (by decide) ?_
      show Steps p.tables e below (Tk0_3.setTop (mkF m 123 #[.val (.int p0_0), .val (.int p0_1), .val (.int (own_j0_3 p0_0 p0_1)), .val (.double (own_v0_4 p0_0 p0_1)), .second, .val (.double (own_v0_5 p0_0 p0_1)), .second, .val (.double (own_v0_6 p0_0 p0_1)), .second, .val (.double (own_v0_7 p0_0 p0_1)), .second, .val (.double (own_v0_8 p0_0 p0_1)), .second, .val (.int (1 : Int32)), .val (.int (1 : Int32)), .unset] [])) _
      refine XS.iconst Xk0_3.here hx rfl (hb hby at_123) ?_
      show Steps p.tables e below (Tk0_3.setTop (mkF m 124 #[.val (.int p0_0), .val (.int p0_1), .val (.int (own_j0_3 p0_0 p0_1)), .val (.double (own_v0_4 p0_0 p0_1)), .second, .val (.double (own_v0_5 p0_0 p0_1)), .second, .val (.double (own_v0_6 p0_0 p0_1)), .second, .val (.double (own_v0_7 p0_0 p0_1)), .second, .val (.double (own_v0_8 p0_0 p0_1)), .second, .val (.int (1 : Int32)), .val (.int (1 : Int32)), .unset] [(.int (1 : Int32))])) _
      refine XS.goto Xk0_3.here hx rfl (pc0 := 124) (pc' := 128) rfl (hb hby at_124) (by decide) (by decide) ?_
      exact kt
  obtain ⟨fs, hr, hrun, hended, hW, hsame⟩ := Xj0_4.leave (v := some (.int (1 : Int32))) (fun h => by rw [Bd.returns] at h; cases h)
  refine ⟨_, _, pre0 _ (?_), hrun, hended, _, _, rfl, ?_, ⟨_, rfl⟩, hW, hsame.mono (by decide) (by decide)⟩
  · show Steps p.tables e below (s₁.setTop (mkF m 0 #[.val (.int p0_0), .val (.int p0_1), .unset, .unset, .unset, .unset, .unset, .unset, .unset, .unset, .unset, .unset, .unset, .unset, .unset, .unset] [])) _
    refine XS.iloadN X0.here hx rfl (hb hby at_0) rfl ?_
    show Steps p.tables e below (s₁.setTop (mkF m 1 #[.val (.int p0_0), .val (.int p0_1), .unset, .unset, .unset, .unset, .unset, .unset, .unset, .unset, .unset, .unset, .unset, .unset, .unset, .unset] [(.int p0_1)])) _
    refine XS.iconst X0.here hx rfl (hb hby at_1) ?_
    show Steps p.tables e below (s₁.setTop (mkF m 2 #[.val (.int p0_0), .val (.int p0_1), .unset, .unset, .unset, .unset, .unset, .unset, .unset, .unset, .unset, .unset, .unset, .unset, .unset, .unset] [(.int (1 : Int32)), (.int p0_1)])) _
    refine XS.iand X0.here hx rfl (hb hby at_2) rfl ?_
    show Steps p.tables e below (s₁.setTop (mkF m 3 #[.val (.int p0_0), .val (.int p0_1), .unset, .unset, .unset, .unset, .unset, .unset, .unset, .unset, .unset, .unset, .unset, .unset, .unset, .unset] [(.int (p0_1 &&& (1 : Int32)))])) _
    refine stj0_1 _ ?_
    show Steps p.tables e below (Tj0_1.setTop (mkF m 27 #[.val (.int p0_0), .val (.int p0_1), .val (.int (own_j0_3 p0_0 p0_1)), .unset, .unset, .unset, .unset, .unset, .unset, .unset, .unset, .unset, .unset, .unset, .unset, .unset] [])) _
    refine XS.iloadN Xj0_1.here hx rfl (hb hby at_27) rfl ?_
    show Steps p.tables e below (Tj0_1.setTop (mkF m 28 #[.val (.int p0_0), .val (.int p0_1), .val (.int (own_j0_3 p0_0 p0_1)), .unset, .unset, .unset, .unset, .unset, .unset, .unset, .unset, .unset, .unset, .unset, .unset, .unset] [(.int (own_j0_3 p0_0 p0_1))])) _
    refine stk0_3 _ ?_
    show Steps p.tables e below (Tk0_3.setTop (mkF m 31 #[.val (.int p0_0), .val (.int p0_1), .val (.int (own_j0_3 p0_0 p0_1)), .unset, .unset, .unset, .unset, .unset, .unset, .unset, .unset, .unset, .unset, .unset, .unset, .unset] [(.double (own_r1_0 (own_j0_3 p0_0 p0_1)))])) _
    refine XS.dstoreN Xk0_3.here hx rfl (hb hby at_31) rfl (l' := #[.val (.int p0_0), .val (.int p0_1), .val (.int (own_j0_3 p0_0 p0_1)), .val (.double (own_v0_4 p0_0 p0_1)), .second, .unset, .unset, .unset, .unset, .unset, .unset, .unset, .unset, .unset, .unset, .unset]) rfl ?_
    show Steps p.tables e below (Tk0_3.setTop (mkF m 32 #[.val (.int p0_0), .val (.int p0_1), .val (.int (own_j0_3 p0_0 p0_1)), .val (.double (own_v0_4 p0_0 p0_1)), .second, .unset, .unset, .unset, .unset, .unset, .unset, .unset, .unset, .unset, .unset, .unset] [])) _
    refine Xk0_3.ldc2Long hx hown (mvT hZ (hw _ (List.mem_of_getElem? (i := 6) rfl))) (g := (mkF m 32 #[.val (.int p0_0), .val (.int p0_1), .val (.int (own_j0_3 p0_0 p0_1)), .val (.double (own_v0_4 p0_0 p0_1)), .second, .unset, .unset, .unset, .unset, .unset, .unset, .unset, .unset, .unset, .unset, .unset] [])) rfl (hb hby at_32) _ ?_
    show Steps p.tables e below (Tk0_3.setTop (mkF m 35 #[.val (.int p0_0), .val (.int p0_1), .val (.int (own_j0_3 p0_0 p0_1)), .val (.double (own_v0_4 p0_0 p0_1)), .second, .unset, .unset, .unset, .unset, .unset, .unset, .unset, .unset, .unset, .unset, .unset] [(.long (101 : Int64))])) _
    refine XS.iloadN Xk0_3.here hx rfl (hb hby at_35) rfl ?_
    show Steps p.tables e below (Tk0_3.setTop (mkF m 36 #[.val (.int p0_0), .val (.int p0_1), .val (.int (own_j0_3 p0_0 p0_1)), .val (.double (own_v0_4 p0_0 p0_1)), .second, .unset, .unset, .unset, .unset, .unset, .unset, .unset, .unset, .unset, .unset, .unset] [(.int (own_j0_3 p0_0 p0_1)), (.long (101 : Int64))])) _
    refine XT.i2l Xk0_3.here hx rfl (hb hby at_36) rfl ?_
    show Steps p.tables e below (Tk0_3.setTop (mkF m 37 #[.val (.int p0_0), .val (.int p0_1), .val (.int (own_j0_3 p0_0 p0_1)), .val (.double (own_v0_4 p0_0 p0_1)), .second, .unset, .unset, .unset, .unset, .unset, .unset, .unset, .unset, .unset, .unset, .unset] [(.long (own_j0_3 p0_0 p0_1).toInt64), (.long (101 : Int64))])) _
    refine XT.lmul Xk0_3.here hx rfl (hb hby at_37) rfl ?_
    show Steps p.tables e below (Tk0_3.setTop (mkF m 38 #[.val (.int p0_0), .val (.int p0_1), .val (.int (own_j0_3 p0_0 p0_1)), .val (.double (own_v0_4 p0_0 p0_1)), .second, .unset, .unset, .unset, .unset, .unset, .unset, .unset, .unset, .unset, .unset, .unset] [(.long ((101 : Int64) * (own_j0_3 p0_0 p0_1).toInt64))])) _
    refine XS.l2dS Xk0_3.here hx rfl (hb hby at_38) rfl rfl ?_
    show Steps p.tables e below (Tk0_3.setTop (mkF m 39 #[.val (.int p0_0), .val (.int p0_1), .val (.int (own_j0_3 p0_0 p0_1)), .val (.double (own_v0_4 p0_0 p0_1)), .second, .unset, .unset, .unset, .unset, .unset, .unset, .unset, .unset, .unset, .unset, .unset] [(.double (FP.l2d ((101 : Int64) * (own_j0_3 p0_0 p0_1).toInt64)))])) _
    refine XS.dstore Xk0_3.here hx rfl (hb hby at_39) rfl (l' := #[.val (.int p0_0), .val (.int p0_1), .val (.int (own_j0_3 p0_0 p0_1)), .val (.double (own_v0_4 p0_0 p0_1)), .second, .val (.double (own_v0_5 p0_0 p0_1)), .second, .unset, .unset, .unset, .unset, .unset, .unset, .unset, .unset, .unset]) rfl ?_
    show Steps p.tables e below (Tk0_3.setTop (mkF m 41 #[.val (.int p0_0), .val (.int p0_1), .val (.int (own_j0_3 p0_0 p0_1)), .val (.double (own_v0_4 p0_0 p0_1)), .second, .val (.double (own_v0_5 p0_0 p0_1)), .second, .unset, .unset, .unset, .unset, .unset, .unset, .unset, .unset, .unset] [])) _
    refine Xk0_3.ldc2Long hx hown (mvT hZ (hw _ (List.mem_of_getElem? (i := 7) rfl))) (g := (mkF m 41 #[.val (.int p0_0), .val (.int p0_1), .val (.int (own_j0_3 p0_0 p0_1)), .val (.double (own_v0_4 p0_0 p0_1)), .second, .val (.double (own_v0_5 p0_0 p0_1)), .second, .unset, .unset, .unset, .unset, .unset, .unset, .unset, .unset, .unset] [])) rfl (hb hby at_41) _ ?_
    show Steps p.tables e below (Tk0_3.setTop (mkF m 44 #[.val (.int p0_0), .val (.int p0_1), .val (.int (own_j0_3 p0_0 p0_1)), .val (.double (own_v0_4 p0_0 p0_1)), .second, .val (.double (own_v0_5 p0_0 p0_1)), .second, .unset, .unset, .unset, .unset, .unset, .unset, .unset, .unset, .unset] [(.long (100 : Int64))])) _
    refine XS.iloadN Xk0_3.here hx rfl (hb hby at_44) rfl ?_
    show Steps p.tables e below (Tk0_3.setTop (mkF m 45 #[.val (.int p0_0), .val (.int p0_1), .val (.int (own_j0_3 p0_0 p0_1)), .val (.double (own_v0_4 p0_0 p0_1)), .second, .val (.double (own_v0_5 p0_0 p0_1)), .second, .unset, .unset, .unset, .unset, .unset, .unset, .unset, .unset, .unset] [(.int (own_j0_3 p0_0 p0_1)), (.long (100 : Int64))])) _
    refine XT.i2l Xk0_3.here hx rfl (hb hby at_45) rfl ?_
    show Steps p.tables e below (Tk0_3.setTop (mkF m 46 #[.val (.int p0_0), .val (.int p0_1), .val (.int (own_j0_3 p0_0 p0_1)), .val (.double (own_v0_4 p0_0 p0_1)), .second, .val (.double (own_v0_5 p0_0 p0_1)), .second, .unset, .unset, .unset, .unset, .unset, .unset, .unset, .unset, .unset] [(.long (own_j0_3 p0_0 p0_1).toInt64), (.long (100 : Int64))])) _
    refine XT.ladd Xk0_3.here hx rfl (hb hby at_46) rfl ?_
    show Steps p.tables e below (Tk0_3.setTop (mkF m 47 #[.val (.int p0_0), .val (.int p0_1), .val (.int (own_j0_3 p0_0 p0_1)), .val (.double (own_v0_4 p0_0 p0_1)), .second, .val (.double (own_v0_5 p0_0 p0_1)), .second, .unset, .unset, .unset, .unset, .unset, .unset, .unset, .unset, .unset] [(.long ((100 : Int64) + (own_j0_3 p0_0 p0_1).toInt64))])) _
    refine XS.l2dS Xk0_3.here hx rfl (hb hby at_47) rfl rfl ?_
    show Steps p.tables e below (Tk0_3.setTop (mkF m 48 #[.val (.int p0_0), .val (.int p0_1), .val (.int (own_j0_3 p0_0 p0_1)), .val (.double (own_v0_4 p0_0 p0_1)), .second, .val (.double (own_v0_5 p0_0 p0_1)), .second, .unset, .unset, .unset, .unset, .unset, .unset, .unset, .unset, .unset] [(.double (FP.l2d ((100 : Int64) + (own_j0_3 p0_0 p0_1).toInt64)))])) _
    refine XS.dstore Xk0_3.here hx rfl (hb hby at_48) rfl (l' := #[.val (.int p0_0), .val (.int p0_1), .val (.int (own_j0_3 p0_0 p0_1)), .val (.double (own_v0_4 p0_0 p0_1)), .second, .val (.double (own_v0_5 p0_0 p0_1)), .second, .val (.double (own_v0_6 p0_0 p0_1)), .second, .unset, .unset, .unset, .unset, .unset, .unset, .unset]) rfl ?_
    show Steps p.tables e below (Tk0_3.setTop (mkF m 50 #[.val (.int p0_0), .val (.int p0_1), .val (.int (own_j0_3 p0_0 p0_1)), .val (.double (own_v0_4 p0_0 p0_1)), .second, .val (.double (own_v0_5 p0_0 p0_1)), .second, .val (.double (own_v0_6 p0_0 p0_1)), .second, .unset, .unset, .unset, .unset, .unset, .unset, .unset] [])) _
    refine XS.dloadN Xk0_3.here hx rfl (hb hby at_50) rfl ?_
    show Steps p.tables e below (Tk0_3.setTop (mkF m 51 #[.val (.int p0_0), .val (.int p0_1), .val (.int (own_j0_3 p0_0 p0_1)), .val (.double (own_v0_4 p0_0 p0_1)), .second, .val (.double (own_v0_5 p0_0 p0_1)), .second, .val (.double (own_v0_6 p0_0 p0_1)), .second, .unset, .unset, .unset, .unset, .unset, .unset, .unset] [(.double (own_v0_4 p0_0 p0_1))])) _
    refine XS.dload Xk0_3.here hx rfl (hb hby at_51) rfl ?_
    show Steps p.tables e below (Tk0_3.setTop (mkF m 53 #[.val (.int p0_0), .val (.int p0_1), .val (.int (own_j0_3 p0_0 p0_1)), .val (.double (own_v0_4 p0_0 p0_1)), .second, .val (.double (own_v0_5 p0_0 p0_1)), .second, .val (.double (own_v0_6 p0_0 p0_1)), .second, .unset, .unset, .unset, .unset, .unset, .unset, .unset] [(.double (own_v0_6 p0_0 p0_1)), (.double (own_v0_4 p0_0 p0_1))])) _
    refine XS.dmulS Xk0_3.here hx rfl (hb hby at_53) rfl nn53 rfl ?_
    show Steps p.tables e below (Tk0_3.setTop (mkF m 54 #[.val (.int p0_0), .val (.int p0_1), .val (.int (own_j0_3 p0_0 p0_1)), .val (.double (own_v0_4 p0_0 p0_1)), .second, .val (.double (own_v0_5 p0_0 p0_1)), .second, .val (.double (own_v0_6 p0_0 p0_1)), .second, .unset, .unset, .unset, .unset, .unset, .unset, .unset] [(.double (FP.dmul (own_v0_4 p0_0 p0_1) (own_v0_6 p0_0 p0_1)))])) _
    refine XS.dload Xk0_3.here hx rfl (hb hby at_54) rfl ?_
    show Steps p.tables e below (Tk0_3.setTop (mkF m 56 #[.val (.int p0_0), .val (.int p0_1), .val (.int (own_j0_3 p0_0 p0_1)), .val (.double (own_v0_4 p0_0 p0_1)), .second, .val (.double (own_v0_5 p0_0 p0_1)), .second, .val (.double (own_v0_6 p0_0 p0_1)), .second, .unset, .unset, .unset, .unset, .unset, .unset, .unset] [(.double (own_v0_5 p0_0 p0_1)), (.double (FP.dmul (own_v0_4 p0_0 p0_1) (own_v0_6 p0_0 p0_1)))])) _
    refine XS.dsubS Xk0_3.here hx rfl (hb hby at_56) rfl nn56 rfl ?_
    show Steps p.tables e below (Tk0_3.setTop (mkF m 57 #[.val (.int p0_0), .val (.int p0_1), .val (.int (own_j0_3 p0_0 p0_1)), .val (.double (own_v0_4 p0_0 p0_1)), .second, .val (.double (own_v0_5 p0_0 p0_1)), .second, .val (.double (own_v0_6 p0_0 p0_1)), .second, .unset, .unset, .unset, .unset, .unset, .unset, .unset] [(.double (FP.dsub (FP.dmul (own_v0_4 p0_0 p0_1) (own_v0_6 p0_0 p0_1)) (own_v0_5 p0_0 p0_1)))])) _
    refine XS.dstore Xk0_3.here hx rfl (hb hby at_57) rfl (l' := #[.val (.int p0_0), .val (.int p0_1), .val (.int (own_j0_3 p0_0 p0_1)), .val (.double (own_v0_4 p0_0 p0_1)), .second, .val (.double (own_v0_5 p0_0 p0_1)), .second, .val (.double (own_v0_6 p0_0 p0_1)), .second, .val (.double (own_v0_7 p0_0 p0_1)), .second, .unset, .unset, .unset, .unset, .unset]) rfl ?_
    show Steps p.tables e below (Tk0_3.setTop (mkF m 59 #[.val (.int p0_0), .val (.int p0_1), .val (.int (own_j0_3 p0_0 p0_1)), .val (.double (own_v0_4 p0_0 p0_1)), .second, .val (.double (own_v0_5 p0_0 p0_1)), .second, .val (.double (own_v0_6 p0_0 p0_1)), .second, .val (.double (own_v0_7 p0_0 p0_1)), .second, .unset, .unset, .unset, .unset, .unset] [])) _
    refine XS.dload Xk0_3.here hx rfl (hb hby at_59) rfl ?_
    show Steps p.tables e below (Tk0_3.setTop (mkF m 61 #[.val (.int p0_0), .val (.int p0_1), .val (.int (own_j0_3 p0_0 p0_1)), .val (.double (own_v0_4 p0_0 p0_1)), .second, .val (.double (own_v0_5 p0_0 p0_1)), .second, .val (.double (own_v0_6 p0_0 p0_1)), .second, .val (.double (own_v0_7 p0_0 p0_1)), .second, .unset, .unset, .unset, .unset, .unset] [(.double (own_v0_5 p0_0 p0_1))])) _
    refine Xk0_3.ldc2DoubleC hx hown (mvT hZ (hw _ (List.mem_of_getElem? (i := 8) rfl))) (g := (mkF m 61 #[.val (.int p0_0), .val (.int p0_1), .val (.int (own_j0_3 p0_0 p0_1)), .val (.double (own_v0_4 p0_0 p0_1)), .second, .val (.double (own_v0_5 p0_0 p0_1)), .second, .val (.double (own_v0_6 p0_0 p0_1)), .second, .val (.double (own_v0_7 p0_0 p0_1)), .second, .unset, .unset, .unset, .unset, .unset] [(.double (own_v0_5 p0_0 p0_1))])) rfl (hb hby at_61) _ ?_
    show Steps p.tables e below (Tk0_3.setTop (mkF m 64 #[.val (.int p0_0), .val (.int p0_1), .val (.int (own_j0_3 p0_0 p0_1)), .val (.double (own_v0_4 p0_0 p0_1)), .second, .val (.double (own_v0_5 p0_0 p0_1)), .second, .val (.double (own_v0_6 p0_0 p0_1)), .second, .val (.double (own_v0_7 p0_0 p0_1)), .second, .unset, .unset, .unset, .unset, .unset] [(.double (4377498837804122112 : UInt64)), (.double (own_v0_5 p0_0 p0_1))])) _
    refine XS.dmulS Xk0_3.here hx rfl (hb hby at_64) rfl nn64 rfl ?_
    show Steps p.tables e below (Tk0_3.setTop (mkF m 65 #[.val (.int p0_0), .val (.int p0_1), .val (.int (own_j0_3 p0_0 p0_1)), .val (.double (own_v0_4 p0_0 p0_1)), .second, .val (.double (own_v0_5 p0_0 p0_1)), .second, .val (.double (own_v0_6 p0_0 p0_1)), .second, .val (.double (own_v0_7 p0_0 p0_1)), .second, .unset, .unset, .unset, .unset, .unset] [(.double (FP.dmul (own_v0_5 p0_0 p0_1) (4377498837804122112 : UInt64)))])) _
    refine XS.dstore Xk0_3.here hx rfl (hb hby at_65) rfl (l' := #[.val (.int p0_0), .val (.int p0_1), .val (.int (own_j0_3 p0_0 p0_1)), .val (.double (own_v0_4 p0_0 p0_1)), .second, .val (.double (own_v0_5 p0_0 p0_1)), .second, .val (.double (own_v0_6 p0_0 p0_1)), .second, .val (.double (own_v0_7 p0_0 p0_1)), .second, .val (.double (own_v0_8 p0_0 p0_1)), .second, .unset, .unset, .unset]) rfl ?_
    show Steps p.tables e below (Tk0_3.setTop (mkF m 67 #[.val (.int p0_0), .val (.int p0_1), .val (.int (own_j0_3 p0_0 p0_1)), .val (.double (own_v0_4 p0_0 p0_1)), .second, .val (.double (own_v0_5 p0_0 p0_1)), .second, .val (.double (own_v0_6 p0_0 p0_1)), .second, .val (.double (own_v0_7 p0_0 p0_1)), .second, .val (.double (own_v0_8 p0_0 p0_1)), .second, .unset, .unset, .unset] [])) _
    refine XS.dload Xk0_3.here hx rfl (hb hby at_67) rfl ?_
    show Steps p.tables e below (Tk0_3.setTop (mkF m 69 #[.val (.int p0_0), .val (.int p0_1), .val (.int (own_j0_3 p0_0 p0_1)), .val (.double (own_v0_4 p0_0 p0_1)), .second, .val (.double (own_v0_5 p0_0 p0_1)), .second, .val (.double (own_v0_6 p0_0 p0_1)), .second, .val (.double (own_v0_7 p0_0 p0_1)), .second, .val (.double (own_v0_8 p0_0 p0_1)), .second, .unset, .unset, .unset] [(.double (own_v0_7 p0_0 p0_1))])) _
    refine XS.dload Xk0_3.here hx rfl (hb hby at_69) rfl ?_
    show Steps p.tables e below (Tk0_3.setTop (mkF m 71 #[.val (.int p0_0), .val (.int p0_1), .val (.int (own_j0_3 p0_0 p0_1)), .val (.double (own_v0_4 p0_0 p0_1)), .second, .val (.double (own_v0_5 p0_0 p0_1)), .second, .val (.double (own_v0_6 p0_0 p0_1)), .second, .val (.double (own_v0_7 p0_0 p0_1)), .second, .val (.double (own_v0_8 p0_0 p0_1)), .second, .unset, .unset, .unset] [(.double (own_v0_8 p0_0 p0_1)), (.double (own_v0_7 p0_0 p0_1))])) _
    refine XS.dcmpS Xk0_3.here hx rfl (hb hby at_71) rfl rfl ?_
    show Steps p.tables e below (Tk0_3.setTop (mkF m 72 #[.val (.int p0_0), .val (.int p0_1), .val (.int (own_j0_3 p0_0 p0_1)), .val (.double (own_v0_4 p0_0 p0_1)), .second, .val (.double (own_v0_5 p0_0 p0_1)), .second, .val (.double (own_v0_6 p0_0 p0_1)), .second, .val (.double (own_v0_7 p0_0 p0_1)), .second, .val (.double (own_v0_8 p0_0 p0_1)), .second, .unset, .unset, .unset] [(.int (cmpValue (FP.dcmp (own_v0_7 p0_0 p0_1) (own_v0_8 p0_0 p0_1)) .g))])) _
    refine XS.ifNo Xk0_3.here hx rfl (hb hby at_72) rfl (XT.i0_gt_f hc72) ?_
    show Steps p.tables e below (Tk0_3.setTop (mkF m 75 #[.val (.int p0_0), .val (.int p0_1), .val (.int (own_j0_3 p0_0 p0_1)), .val (.double (own_v0_4 p0_0 p0_1)), .second, .val (.double (own_v0_5 p0_0 p0_1)), .second, .val (.double (own_v0_6 p0_0 p0_1)), .second, .val (.double (own_v0_7 p0_0 p0_1)), .second, .val (.double (own_v0_8 p0_0 p0_1)), .second, .unset, .unset, .unset] [])) _
    refine XS.dload Xk0_3.here hx rfl (hb hby at_75) rfl ?_
    show Steps p.tables e below (Tk0_3.setTop (mkF m 77 #[.val (.int p0_0), .val (.int p0_1), .val (.int (own_j0_3 p0_0 p0_1)), .val (.double (own_v0_4 p0_0 p0_1)), .second, .val (.double (own_v0_5 p0_0 p0_1)), .second, .val (.double (own_v0_6 p0_0 p0_1)), .second, .val (.double (own_v0_7 p0_0 p0_1)), .second, .val (.double (own_v0_8 p0_0 p0_1)), .second, .unset, .unset, .unset] [(.double (own_v0_7 p0_0 p0_1))])) _
    refine XS.dnegS Xk0_3.here hx rfl (hb hby at_77) rfl rfl ?_
    show Steps p.tables e below (Tk0_3.setTop (mkF m 78 #[.val (.int p0_0), .val (.int p0_1), .val (.int (own_j0_3 p0_0 p0_1)), .val (.double (own_v0_4 p0_0 p0_1)), .second, .val (.double (own_v0_5 p0_0 p0_1)), .second, .val (.double (own_v0_6 p0_0 p0_1)), .second, .val (.double (own_v0_7 p0_0 p0_1)), .second, .val (.double (own_v0_8 p0_0 p0_1)), .second, .unset, .unset, .unset] [(.double (FP.dneg (own_v0_7 p0_0 p0_1)))])) _
    refine XS.dload Xk0_3.here hx rfl (hb hby at_78) rfl ?_
    show Steps p.tables e below (Tk0_3.setTop (mkF m 80 #[.val (.int p0_0), .val (.int p0_1), .val (.int (own_j0_3 p0_0 p0_1)), .val (.double (own_v0_4 p0_0 p0_1)), .second, .val (.double (own_v0_5 p0_0 p0_1)), .second, .val (.double (own_v0_6 p0_0 p0_1)), .second, .val (.double (own_v0_7 p0_0 p0_1)), .second, .val (.double (own_v0_8 p0_0 p0_1)), .second, .unset, .unset, .unset] [(.double (own_v0_8 p0_0 p0_1)), (.double (FP.dneg (own_v0_7 p0_0 p0_1)))])) _
    refine XS.dcmpS Xk0_3.here hx rfl (hb hby at_80) rfl rfl ?_
    show Steps p.tables e below (Tk0_3.setTop (mkF m 81 #[.val (.int p0_0), .val (.int p0_1), .val (.int (own_j0_3 p0_0 p0_1)), .val (.double (own_v0_4 p0_0 p0_1)), .second, .val (.double (own_v0_5 p0_0 p0_1)), .second, .val (.double (own_v0_6 p0_0 p0_1)), .second, .val (.double (own_v0_7 p0_0 p0_1)), .second, .val (.double (own_v0_8 p0_0 p0_1)), .second, .unset, .unset, .unset] [(.int (cmpValue (FP.dcmp (FP.dneg (own_v0_7 p0_0 p0_1)) (own_v0_8 p0_0 p0_1)) .g))])) _
    refine XS.ifNo Xk0_3.here hx rfl (hb hby at_81) rfl (XT.i0_gt_f hc81) ?_
    show Steps p.tables e below (Tk0_3.setTop (mkF m 84 #[.val (.int p0_0), .val (.int p0_1), .val (.int (own_j0_3 p0_0 p0_1)), .val (.double (own_v0_4 p0_0 p0_1)), .second, .val (.double (own_v0_5 p0_0 p0_1)), .second, .val (.double (own_v0_6 p0_0 p0_1)), .second, .val (.double (own_v0_7 p0_0 p0_1)), .second, .val (.double (own_v0_8 p0_0 p0_1)), .second, .unset, .unset, .unset] [])) _
    refine XS.iconst Xk0_3.here hx rfl (hb hby at_84) ?_
    show Steps p.tables e below (Tk0_3.setTop (mkF m 85 #[.val (.int p0_0), .val (.int p0_1), .val (.int (own_j0_3 p0_0 p0_1)), .val (.double (own_v0_4 p0_0 p0_1)), .second, .val (.double (own_v0_5 p0_0 p0_1)), .second, .val (.double (own_v0_6 p0_0 p0_1)), .second, .val (.double (own_v0_7 p0_0 p0_1)), .second, .val (.double (own_v0_8 p0_0 p0_1)), .second, .unset, .unset, .unset] [(.int (1 : Int32))])) _
    refine XS.goto Xk0_3.here hx rfl (pc0 := 85) (pc' := 89) rfl (hb hby at_85) (by decide) (by decide) ?_
    show Steps p.tables e below (Tk0_3.setTop (mkF m 89 #[.val (.int p0_0), .val (.int p0_1), .val (.int (own_j0_3 p0_0 p0_1)), .val (.double (own_v0_4 p0_0 p0_1)), .second, .val (.double (own_v0_5 p0_0 p0_1)), .second, .val (.double (own_v0_6 p0_0 p0_1)), .second, .val (.double (own_v0_7 p0_0 p0_1)), .second, .val (.double (own_v0_8 p0_0 p0_1)), .second, .unset, .unset, .unset] [(.int (1 : Int32))])) _
    refine XS.istore Xk0_3.here hx rfl (hb hby at_89) rfl (l' := #[.val (.int p0_0), .val (.int p0_1), .val (.int (own_j0_3 p0_0 p0_1)), .val (.double (own_v0_4 p0_0 p0_1)), .second, .val (.double (own_v0_5 p0_0 p0_1)), .second, .val (.double (own_v0_6 p0_0 p0_1)), .second, .val (.double (own_v0_7 p0_0 p0_1)), .second, .val (.double (own_v0_8 p0_0 p0_1)), .second, .val (.int (1 : Int32)), .unset, .unset]) rfl ?_
    show Steps p.tables e below (Tk0_3.setTop (mkF m 91 #[.val (.int p0_0), .val (.int p0_1), .val (.int (own_j0_3 p0_0 p0_1)), .val (.double (own_v0_4 p0_0 p0_1)), .second, .val (.double (own_v0_5 p0_0 p0_1)), .second, .val (.double (own_v0_6 p0_0 p0_1)), .second, .val (.double (own_v0_7 p0_0 p0_1)), .second, .val (.double (own_v0_8 p0_0 p0_1)), .second, .val (.int (1 : Int32)), .unset, .unset] [])) _
    refine XS.dconst1 Xk0_3.here hx rfl (hb hby at_91) (v := (4607182418800017408 : UInt64)) (by decide +kernel) ?_
    show Steps p.tables e below (Tk0_3.setTop (mkF m 92 #[.val (.int p0_0), .val (.int p0_1), .val (.int (own_j0_3 p0_0 p0_1)), .val (.double (own_v0_4 p0_0 p0_1)), .second, .val (.double (own_v0_5 p0_0 p0_1)), .second, .val (.double (own_v0_6 p0_0 p0_1)), .second, .val (.double (own_v0_7 p0_0 p0_1)), .second, .val (.double (own_v0_8 p0_0 p0_1)), .second, .val (.int (1 : Int32)), .unset, .unset] [(.double (4607182418800017408 : UInt64))])) _
    refine XS.dloadN Xk0_3.here hx rfl (hb hby at_92) rfl ?_
    show Steps p.tables e below (Tk0_3.setTop (mkF m 93 #[.val (.int p0_0), .val (.int p0_1), .val (.int (own_j0_3 p0_0 p0_1)), .val (.double (own_v0_4 p0_0 p0_1)), .second, .val (.double (own_v0_5 p0_0 p0_1)), .second, .val (.double (own_v0_6 p0_0 p0_1)), .second, .val (.double (own_v0_7 p0_0 p0_1)), .second, .val (.double (own_v0_8 p0_0 p0_1)), .second, .val (.int (1 : Int32)), .unset, .unset] [(.double (own_v0_4 p0_0 p0_1)), (.double (4607182418800017408 : UInt64))])) _
    refine XS.dcmpS Xk0_3.here hx rfl (hb hby at_93) rfl rfl ?_
    show Steps p.tables e below (Tk0_3.setTop (mkF m 94 #[.val (.int p0_0), .val (.int p0_1), .val (.int (own_j0_3 p0_0 p0_1)), .val (.double (own_v0_4 p0_0 p0_1)), .second, .val (.double (own_v0_5 p0_0 p0_1)), .second, .val (.double (own_v0_6 p0_0 p0_1)), .second, .val (.double (own_v0_7 p0_0 p0_1)), .second, .val (.double (own_v0_8 p0_0 p0_1)), .second, .val (.int (1 : Int32)), .unset, .unset] [(.int (cmpValue (FP.dcmp (4607182418800017408 : UInt64) (own_v0_4 p0_0 p0_1)) .g))])) _
    refine XS.ifNo Xk0_3.here hx rfl (hb hby at_94) rfl (XT.i0_gt_f hc94) ?_
    show Steps p.tables e below (Tk0_3.setTop (mkF m 97 #[.val (.int p0_0), .val (.int p0_1), .val (.int (own_j0_3 p0_0 p0_1)), .val (.double (own_v0_4 p0_0 p0_1)), .second, .val (.double (own_v0_5 p0_0 p0_1)), .second, .val (.double (own_v0_6 p0_0 p0_1)), .second, .val (.double (own_v0_7 p0_0 p0_1)), .second, .val (.double (own_v0_8 p0_0 p0_1)), .second, .val (.int (1 : Int32)), .unset, .unset] [])) _
    refine XS.dloadN Xk0_3.here hx rfl (hb hby at_97) rfl ?_
    show Steps p.tables e below (Tk0_3.setTop (mkF m 98 #[.val (.int p0_0), .val (.int p0_1), .val (.int (own_j0_3 p0_0 p0_1)), .val (.double (own_v0_4 p0_0 p0_1)), .second, .val (.double (own_v0_5 p0_0 p0_1)), .second, .val (.double (own_v0_6 p0_0 p0_1)), .second, .val (.double (own_v0_7 p0_0 p0_1)), .second, .val (.double (own_v0_8 p0_0 p0_1)), .second, .val (.int (1 : Int32)), .unset, .unset] [(.double (own_v0_4 p0_0 p0_1))])) _
    refine Xk0_3.ldc2DoubleC hx hown (mvT hZ (hw _ (List.mem_of_getElem? (i := 9) rfl))) (g := (mkF m 98 #[.val (.int p0_0), .val (.int p0_1), .val (.int (own_j0_3 p0_0 p0_1)), .val (.double (own_v0_4 p0_0 p0_1)), .second, .val (.double (own_v0_5 p0_0 p0_1)), .second, .val (.double (own_v0_6 p0_0 p0_1)), .second, .val (.double (own_v0_7 p0_0 p0_1)), .second, .val (.double (own_v0_8 p0_0 p0_1)), .second, .val (.int (1 : Int32)), .unset, .unset] [(.double (own_v0_4 p0_0 p0_1))])) rfl (hb hby at_98) _ ?_
    show Steps p.tables e below (Tk0_3.setTop (mkF m 101 #[.val (.int p0_0), .val (.int p0_1), .val (.int (own_j0_3 p0_0 p0_1)), .val (.double (own_v0_4 p0_0 p0_1)), .second, .val (.double (own_v0_5 p0_0 p0_1)), .second, .val (.double (own_v0_6 p0_0 p0_1)), .second, .val (.double (own_v0_7 p0_0 p0_1)), .second, .val (.double (own_v0_8 p0_0 p0_1)), .second, .val (.int (1 : Int32)), .unset, .unset] [(.double (4636807660098813952 : UInt64)), (.double (own_v0_4 p0_0 p0_1))])) _
    refine XS.dcmpS Xk0_3.here hx rfl (hb hby at_101) rfl rfl ?_
    show Steps p.tables e below (Tk0_3.setTop (mkF m 102 #[.val (.int p0_0), .val (.int p0_1), .val (.int (own_j0_3 p0_0 p0_1)), .val (.double (own_v0_4 p0_0 p0_1)), .second, .val (.double (own_v0_5 p0_0 p0_1)), .second, .val (.double (own_v0_6 p0_0 p0_1)), .second, .val (.double (own_v0_7 p0_0 p0_1)), .second, .val (.double (own_v0_8 p0_0 p0_1)), .second, .val (.int (1 : Int32)), .unset, .unset] [(.int (cmpValue (FP.dcmp (own_v0_4 p0_0 p0_1) (4636807660098813952 : UInt64)) .g))])) _
    refine XS.ifNo Xk0_3.here hx rfl (hb hby at_102) rfl (XT.i0_ge_f hc102) ?_
    show Steps p.tables e below (Tk0_3.setTop (mkF m 105 #[.val (.int p0_0), .val (.int p0_1), .val (.int (own_j0_3 p0_0 p0_1)), .val (.double (own_v0_4 p0_0 p0_1)), .second, .val (.double (own_v0_5 p0_0 p0_1)), .second, .val (.double (own_v0_6 p0_0 p0_1)), .second, .val (.double (own_v0_7 p0_0 p0_1)), .second, .val (.double (own_v0_8 p0_0 p0_1)), .second, .val (.int (1 : Int32)), .unset, .unset] [])) _
    refine XS.iconst Xk0_3.here hx rfl (hb hby at_105) ?_
    show Steps p.tables e below (Tk0_3.setTop (mkF m 106 #[.val (.int p0_0), .val (.int p0_1), .val (.int (own_j0_3 p0_0 p0_1)), .val (.double (own_v0_4 p0_0 p0_1)), .second, .val (.double (own_v0_5 p0_0 p0_1)), .second, .val (.double (own_v0_6 p0_0 p0_1)), .second, .val (.double (own_v0_7 p0_0 p0_1)), .second, .val (.double (own_v0_8 p0_0 p0_1)), .second, .val (.int (1 : Int32)), .unset, .unset] [(.int (1 : Int32))])) _
    refine XS.goto Xk0_3.here hx rfl (pc0 := 106) (pc' := 110) rfl (hb hby at_106) (by decide) (by decide) ?_
    show Steps p.tables e below (Tk0_3.setTop (mkF m 110 #[.val (.int p0_0), .val (.int p0_1), .val (.int (own_j0_3 p0_0 p0_1)), .val (.double (own_v0_4 p0_0 p0_1)), .second, .val (.double (own_v0_5 p0_0 p0_1)), .second, .val (.double (own_v0_6 p0_0 p0_1)), .second, .val (.double (own_v0_7 p0_0 p0_1)), .second, .val (.double (own_v0_8 p0_0 p0_1)), .second, .val (.int (1 : Int32)), .unset, .unset] [(.int (1 : Int32))])) _
    refine XS.istore Xk0_3.here hx rfl (hb hby at_110) rfl (l' := #[.val (.int p0_0), .val (.int p0_1), .val (.int (own_j0_3 p0_0 p0_1)), .val (.double (own_v0_4 p0_0 p0_1)), .second, .val (.double (own_v0_5 p0_0 p0_1)), .second, .val (.double (own_v0_6 p0_0 p0_1)), .second, .val (.double (own_v0_7 p0_0 p0_1)), .second, .val (.double (own_v0_8 p0_0 p0_1)), .second, .val (.int (1 : Int32)), .val (.int (1 : Int32)), .unset]) rfl ?_
    show Steps p.tables e below (Tk0_3.setTop (mkF m 112 #[.val (.int p0_0), .val (.int p0_1), .val (.int (own_j0_3 p0_0 p0_1)), .val (.double (own_v0_4 p0_0 p0_1)), .second, .val (.double (own_v0_5 p0_0 p0_1)), .second, .val (.double (own_v0_6 p0_0 p0_1)), .second, .val (.double (own_v0_7 p0_0 p0_1)), .second, .val (.double (own_v0_8 p0_0 p0_1)), .second, .val (.int (1 : Int32)), .val (.int (1 : Int32)), .unset] [])) _
    refine XS.iloadN Xk0_3.here hx rfl (hb hby at_112) rfl ?_
    show Steps p.tables e below (Tk0_3.setTop (mkF m 113 #[.val (.int p0_0), .val (.int p0_1), .val (.int (own_j0_3 p0_0 p0_1)), .val (.double (own_v0_4 p0_0 p0_1)), .second, .val (.double (own_v0_5 p0_0 p0_1)), .second, .val (.double (own_v0_6 p0_0 p0_1)), .second, .val (.double (own_v0_7 p0_0 p0_1)), .second, .val (.double (own_v0_8 p0_0 p0_1)), .second, .val (.int (1 : Int32)), .val (.int (1 : Int32)), .unset] [(.int (own_j0_3 p0_0 p0_1))])) _
    refine XS.iconst Xk0_3.here hx rfl (hb hby at_113) ?_
    show Steps p.tables e below (Tk0_3.setTop (mkF m 114 #[.val (.int p0_0), .val (.int p0_1), .val (.int (own_j0_3 p0_0 p0_1)), .val (.double (own_v0_4 p0_0 p0_1)), .second, .val (.double (own_v0_5 p0_0 p0_1)), .second, .val (.double (own_v0_6 p0_0 p0_1)), .second, .val (.double (own_v0_7 p0_0 p0_1)), .second, .val (.double (own_v0_8 p0_0 p0_1)), .second, .val (.int (1 : Int32)), .val (.int (1 : Int32)), .unset] [(.int (1 : Int32)), (.int (own_j0_3 p0_0 p0_1))])) _
    refine stj0_4 _ ?_
    show Steps p.tables e below (Tj0_4.setTop (mkF m 128 #[.val (.int p0_0), .val (.int p0_1), .val (.int (own_j0_3 p0_0 p0_1)), .val (.double (own_v0_4 p0_0 p0_1)), .second, .val (.double (own_v0_5 p0_0 p0_1)), .second, .val (.double (own_v0_6 p0_0 p0_1)), .second, .val (.double (own_v0_7 p0_0 p0_1)), .second, .val (.double (own_v0_8 p0_0 p0_1)), .second, .val (.int (1 : Int32)), .val (.int (1 : Int32)), .unset] [(.int (1 : Int32))])) _
    refine XS.istore Xj0_4.here hx rfl (hb hby at_128) rfl (l' := #[.val (.int p0_0), .val (.int p0_1), .val (.int (own_j0_3 p0_0 p0_1)), .val (.double (own_v0_4 p0_0 p0_1)), .second, .val (.double (own_v0_5 p0_0 p0_1)), .second, .val (.double (own_v0_6 p0_0 p0_1)), .second, .val (.double (own_v0_7 p0_0 p0_1)), .second, .val (.double (own_v0_8 p0_0 p0_1)), .second, .val (.int (1 : Int32)), .val (.int (1 : Int32)), .val (.int (1 : Int32))]) rfl ?_
    show Steps p.tables e below (Tj0_4.setTop (mkF m 130 #[.val (.int p0_0), .val (.int p0_1), .val (.int (own_j0_3 p0_0 p0_1)), .val (.double (own_v0_4 p0_0 p0_1)), .second, .val (.double (own_v0_5 p0_0 p0_1)), .second, .val (.double (own_v0_6 p0_0 p0_1)), .second, .val (.double (own_v0_7 p0_0 p0_1)), .second, .val (.double (own_v0_8 p0_0 p0_1)), .second, .val (.int (1 : Int32)), .val (.int (1 : Int32)), .val (.int (1 : Int32))] [])) _
    refine XS.iload Xj0_4.here hx rfl (hb hby at_130) rfl ?_
    show Steps p.tables e below (Tj0_4.setTop (mkF m 132 #[.val (.int p0_0), .val (.int p0_1), .val (.int (own_j0_3 p0_0 p0_1)), .val (.double (own_v0_4 p0_0 p0_1)), .second, .val (.double (own_v0_5 p0_0 p0_1)), .second, .val (.double (own_v0_6 p0_0 p0_1)), .second, .val (.double (own_v0_7 p0_0 p0_1)), .second, .val (.double (own_v0_8 p0_0 p0_1)), .second, .val (.int (1 : Int32)), .val (.int (1 : Int32)), .val (.int (1 : Int32))] [(.int (1 : Int32))])) _
    refine XS.ifNo Xj0_4.here hx rfl (hb hby at_132) rfl (XT.i0_eq_f (by decide : ¬ ((1 : Int32) = (0 : Int32)))) ?_
    show Steps p.tables e below (Tj0_4.setTop (mkF m 135 #[.val (.int p0_0), .val (.int p0_1), .val (.int (own_j0_3 p0_0 p0_1)), .val (.double (own_v0_4 p0_0 p0_1)), .second, .val (.double (own_v0_5 p0_0 p0_1)), .second, .val (.double (own_v0_6 p0_0 p0_1)), .second, .val (.double (own_v0_7 p0_0 p0_1)), .second, .val (.double (own_v0_8 p0_0 p0_1)), .second, .val (.int (1 : Int32)), .val (.int (1 : Int32)), .val (.int (1 : Int32))] [])) _
    refine XS.iload Xj0_4.here hx rfl (hb hby at_135) rfl ?_
    show Steps p.tables e below (Tj0_4.setTop (mkF m 137 #[.val (.int p0_0), .val (.int p0_1), .val (.int (own_j0_3 p0_0 p0_1)), .val (.double (own_v0_4 p0_0 p0_1)), .second, .val (.double (own_v0_5 p0_0 p0_1)), .second, .val (.double (own_v0_6 p0_0 p0_1)), .second, .val (.double (own_v0_7 p0_0 p0_1)), .second, .val (.double (own_v0_8 p0_0 p0_1)), .second, .val (.int (1 : Int32)), .val (.int (1 : Int32)), .val (.int (1 : Int32))] [(.int (1 : Int32))])) _
    refine XS.ifNo Xj0_4.here hx rfl (hb hby at_137) rfl (XT.i0_eq_f (by decide : ¬ ((1 : Int32) = (0 : Int32)))) ?_
    show Steps p.tables e below (Tj0_4.setTop (mkF m 140 #[.val (.int p0_0), .val (.int p0_1), .val (.int (own_j0_3 p0_0 p0_1)), .val (.double (own_v0_4 p0_0 p0_1)), .second, .val (.double (own_v0_5 p0_0 p0_1)), .second, .val (.double (own_v0_6 p0_0 p0_1)), .second, .val (.double (own_v0_7 p0_0 p0_1)), .second, .val (.double (own_v0_8 p0_0 p0_1)), .second, .val (.int (1 : Int32)), .val (.int (1 : Int32)), .val (.int (1 : Int32))] [])) _
    refine XS.iload Xj0_4.here hx rfl (hb hby at_140) rfl ?_
    show Steps p.tables e below (Tj0_4.setTop (mkF m 142 #[.val (.int p0_0), .val (.int p0_1), .val (.int (own_j0_3 p0_0 p0_1)), .val (.double (own_v0_4 p0_0 p0_1)), .second, .val (.double (own_v0_5 p0_0 p0_1)), .second, .val (.double (own_v0_6 p0_0 p0_1)), .second, .val (.double (own_v0_7 p0_0 p0_1)), .second, .val (.double (own_v0_8 p0_0 p0_1)), .second, .val (.int (1 : Int32)), .val (.int (1 : Int32)), .val (.int (1 : Int32))] [(.int (1 : Int32))])) _
    refine XS.ifNo Xj0_4.here hx rfl (hb hby at_142) rfl (XT.i0_eq_f (by decide : ¬ ((1 : Int32) = (0 : Int32)))) ?_
    show Steps p.tables e below (Tj0_4.setTop (mkF m 145 #[.val (.int p0_0), .val (.int p0_1), .val (.int (own_j0_3 p0_0 p0_1)), .val (.double (own_v0_4 p0_0 p0_1)), .second, .val (.double (own_v0_5 p0_0 p0_1)), .second, .val (.double (own_v0_6 p0_0 p0_1)), .second, .val (.double (own_v0_7 p0_0 p0_1)), .second, .val (.double (own_v0_8 p0_0 p0_1)), .second, .val (.int (1 : Int32)), .val (.int (1 : Int32)), .val (.int (1 : Int32))] [])) _
    refine XS.iconst Xj0_4.here hx rfl (hb hby at_145) ?_
    show Steps p.tables e below (Tj0_4.setTop (mkF m 146 #[.val (.int p0_0), .val (.int p0_1), .val (.int (own_j0_3 p0_0 p0_1)), .val (.double (own_v0_4 p0_0 p0_1)), .second, .val (.double (own_v0_5 p0_0 p0_1)), .second, .val (.double (own_v0_6 p0_0 p0_1)), .second, .val (.double (own_v0_7 p0_0 p0_1)), .second, .val (.double (own_v0_8 p0_0 p0_1)), .second, .val (.int (1 : Int32)), .val (.int (1 : Int32)), .val (.int (1 : Int32))] [(.int (1 : Int32))])) _
    refine XS.goto Xj0_4.here hx rfl (pc0 := 146) (pc' := 150) rfl (hb hby at_146) (by decide) (by decide) ?_
    show Steps p.tables e below (Tj0_4.setTop (mkF m 150 #[.val (.int p0_0), .val (.int p0_1), .val (.int (own_j0_3 p0_0 p0_1)), .val (.double (own_v0_4 p0_0 p0_1)), .second, .val (.double (own_v0_5 p0_0 p0_1)), .second, .val (.double (own_v0_6 p0_0 p0_1)), .second, .val (.double (own_v0_7 p0_0 p0_1)), .second, .val (.double (own_v0_8 p0_0 p0_1)), .second, .val (.int (1 : Int32)), .val (.int (1 : Int32)), .val (.int (1 : Int32))] [(.int (1 : Int32))])) _
    exact retN Xj0_4 hx (t := .boolean) Bd.returns (by simp) (hb hby at_150) hr
  · show own_Q0 Z p0_0 p0_1 h0 n0 _ Tj0_4.heap _
    rw [ej0_4]
    exact ⟨rfl, Nj0_4⟩
theorem own_qb (p0_0 p0_1 : Int32) : 1 ≤ (own_j0_3 p0_0 p0_1).toInt ∧ (own_j0_3 p0_0 p0_1).toInt ≤ 2147483647 := by
  have h1 : (own_v0_0 p0_0).toInt = p0_0.toInt % 2 ^ 31 := Jvm.Kit.i32_mask _ _ (k := 31) (by decide) (by decide)
  have h2 : (p0_0 &&& (127 : Int32)).toInt = p0_0.toInt % 2 ^ 7 := Jvm.Kit.i32_mask _ _ (k := 7) (by decide) (by decide)
  have e1 : (1 : Int32).toInt = 1 := by decide
  have h3 : (own_v0_2 p0_0).toInt = p0_0.toInt % 2 ^ 7 + 1 := by
    unfold own_v0_2; rw [Jvm.Kit.i32_add (by rw [h2, e1]; omega) (by rw [h2, e1]; omega), h2, e1]
  unfold own_j0_3; split
  · unfold own_j0_1; split
    · rw [e1]; omega
    · rename_i q
      have : (own_v0_0 p0_0).toInt ≠ 0 := fun z => q (Int32.toInt_inj.mp (by rw [z]; rfl))
      omega
  · omega
theorem own_k101 : own_is 101 (4636807660098813952 : UInt64) := ⟨by rw [FP.Core.fin_bits]; decide, by decide +kernel⟩
theorem own_k100 : own_is 100 (4636737291354636288 : UInt64) := ⟨by rw [FP.Core.fin_bits]; decide, by decide +kernel⟩
theorem own_k1 : own_is 1 (4607182418800017408 : UInt64) := ⟨by rw [FP.Core.fin_bits]; decide, by decide +kernel⟩
theorem own_ktol : FP.Core.DFin (4377498837804122112 : UInt64) ∧ own_zv (4377498837804122112 : UInt64) = ((2 ^ 1023 : Nat) : Int) := ⟨by rw [FP.Core.fin_bits]; decide, by decide +kernel⟩
section Q
variable (q : Int32) (h1 : 1 ≤ q.toInt) (h2 : q.toInt ≤ 2147483647)
theorem own_num (h1 : 1 ≤ q.toInt) (h2 : q.toInt ≤ 2147483647) : own_is (101 * q.toInt) (FP.dmul (4636807660098813952 : UInt64) (FP.i2d q)) := own_is_mul own_k101 (own_is_i2d q) (by omega)
theorem own_den (h1 : 1 ≤ q.toInt) (h2 : q.toInt ≤ 2147483647) : own_is (100 + q.toInt) (FP.dadd (4636737291354636288 : UInt64) (FP.i2d q)) := own_is_add own_k100 (own_is_i2d q) (by omega)
theorem own_quo (h1 : 1 ≤ q.toInt) (h2 : q.toInt ≤ 2147483647) : own_rnd (101 * q.toInt * own_U) (100 + q.toInt) (own_r1_0 q) := own_is_div_rnd (own_num q h1 h2) (own_den q h1 h2) (by omega)
theorem own_nl (h1 : 1 ≤ q.toInt) (h2 : q.toInt ≤ 2147483647) : own_is (101 * q.toInt) (FP.l2d ((101 : Int64) * q.toInt64)) := by
  have a1 := Jvm.Kit.i64_of_i32 q
  have a2 : (101 : Int64).toInt = 101 := by decide
  have a3 : ((101 : Int64) * q.toInt64).toInt = 101 * q.toInt := by rw [Jvm.Kit.i64_mul (by rw [a1, a2]; omega) (by rw [a1, a2]; omega), a1, a2]
  rw [← a3]; exact own_is_l2d (by rw [a3]; omega)
theorem own_dl (h1 : 1 ≤ q.toInt) (h2 : q.toInt ≤ 2147483647) : own_is (100 + q.toInt) (FP.l2d ((100 : Int64) + q.toInt64)) := by
  have a1 := Jvm.Kit.i64_of_i32 q
  have a2 : (100 : Int64).toInt = 100 := by decide
  have a3 : ((100 : Int64) + q.toInt64).toInt = 100 + q.toInt := by rw [Jvm.Kit.i64_add (by rw [a1, a2]; omega) (by rw [a1, a2]; omega), a1, a2]
  rw [← a3]; exact own_is_l2d (by rw [a3]; omega)
theorem own_UW : own_U = 2251799813685248 * ((2 ^ 1023 : Nat) : Int) := by rw [own_U_eq]; decide +kernel
theorem own_U_big : own_U < ((2 ^ 1075 : Nat) : Int) := by rw [own_U_eq]; decide +kernel
theorem own_rfin (h1 : 1 ≤ q.toInt) (h2 : q.toInt ≤ 2147483647) : FP.Core.DFin (own_r1_0 q) ∧ 4503599627370496 * (own_zv (own_r1_0 q) * (100 + q.toInt) - 101 * q.toInt * own_U) ≤ 101 * q.toInt * own_U ∧ 4503599627370496 * (101 * q.toInt * own_U - own_zv (own_r1_0 q) * (100 + q.toInt)) ≤ 101 * q.toInt * own_U := by
  refine own_rel (own_quo q h1 h2) (by omega) ?_ ?_
  · have hW : 2 ≤ ((2 ^ 1023 : Nat) : Int) := by decide +kernel
    rw [own_UW]
    generalize ((2 ^ 1023 : Nat) : Int) = W at *
    have a : 4503599627370496 * (100 + q.toInt) ≤ (2251799813685248 * (101 * q.toInt)) * 2 := by omega
    have b : (2251799813685248 * (101 * q.toInt)) * 2 ≤ (2251799813685248 * (101 * q.toInt)) * W := Int.mul_le_mul_of_nonneg_left hW (by omega)
    have c : 101 * q.toInt * (2251799813685248 * W) = (2251799813685248 * (101 * q.toInt)) * W := by simp only [Int.mul_assoc, Int.mul_comm, Int.mul_left_comm]
    rw [c]; omega
  · refine Int.ediv_lt_of_lt_mul (by omega) ?_
    have hU := own_U_pos
    have a : 101 * q.toInt * own_U < ((2 ^ 2096 : Nat) : Int) * 1 := by
      have e : 101 * q.toInt * own_U ≤ 274877906944 * own_U := Int.mul_le_mul_of_nonneg_right (by omega) (Int.le_of_lt hU)
      have f : 274877906944 * own_U < ((2 ^ 2096 : Nat) : Int) := by rw [own_U_eq]; decide +kernel
      omega
    have b : ((2 ^ 2096 : Nat) : Int) * 1 ≤ ((2 ^ 2096 : Nat) : Int) * (100 + q.toInt) := Int.mul_le_mul_of_nonneg_left (by omega) (Int.natCast_nonneg _)
    omega
theorem own_prod (h1 : 1 ≤ q.toInt) (h2 : q.toInt ≤ 2147483647) {d : UInt64} (hd : own_is (100 + q.toInt) d) : own_rnd (own_zv (own_r1_0 q) * (100 + q.toInt)) 1 (FP.dmul (own_r1_0 q) d) := by
  have h := own_dmul_rnd (own_rfin q h1 h2).1 hd.1
  rw [hd.2, ← Int.mul_assoc] at h
  exact own_rnd_scale own_U_pos (by rw [Int.one_mul]; exact h)
/-- the product's distance from n, and the difference's size -/
theorem own_near (h1 : 1 ≤ q.toInt) (h2 : q.toInt ≤ 2147483647) {d n : UInt64} (hd : own_is (100 + q.toInt) d) (hn : own_is (101 * q.toInt) n) :
    FP.Core.DFin (FP.dmul (own_r1_0 q) d) ∧ FP.Core.DFin (FP.dsub (FP.dmul (own_r1_0 q) d) n) ∧ own_zv (FP.dsub (FP.dmul (own_r1_0 q) d) n) ≤ 101 * q.toInt * ((2 ^ 1023 : Nat) : Int) ∧ -(101 * q.toInt * ((2 ^ 1023 : Nat) : Int)) ≤ own_zv (FP.dsub (FP.dmul (own_r1_0 q) d) n) := by
  obtain ⟨rf, r1, r2⟩ := own_rfin q h1 h2
  have hp := own_prod q h1 h2 hd
  obtain ⟨m, hm⟩ : ∃ m : Nat, 101 * q.toInt = (m : Int) := ⟨(101 * q.toInt).toNat, by omega⟩
  have m0 : m ≠ 0 := by omega
  have l1 : 2 ^ m.log2 ≤ m := Nat.log2_self_le m0
  have l2 : m < 2 ^ (m.log2 + 1) := Nat.lt_log2_self
  have l4 : m.log2 < 38 := by
    apply (Nat.pow_lt_pow_iff_right (by decide : 1 < 2)).mp
    exact Nat.lt_of_le_of_lt l1 (by omega)
  rw [hm] at r1 r2 hn ⊢
  rw [Nat.pow_succ] at l2
  have pq : 2 ^ m.log2 * 2 ^ (51 - m.log2) = 2251799813685248 := by rw [← Nat.pow_add, show m.log2 + (51 - m.log2) = 51 by omega]
  have pw : ∀ c : Int, c * ((2 ^ (1023 + m.log2) : Nat) : Int) = c * ((2 ^ m.log2 : Nat) : Int) * ((2 ^ 1023 : Nat) : Int) := fun c => by
    rw [Nat.pow_add, Int.natCast_mul, Int.mul_assoc, Int.mul_comm ((2 ^ 1023 : Nat) : Int)]
  have hQ : m * 2 ^ (51 - m.log2) < 4503599627370496 := by
    have := Nat.mul_lt_mul_of_pos_right l2 (Nat.two_pow_pos (51 - m.log2))
    rw [Nat.mul_assoc, Nat.mul_comm 2, ← Nat.mul_assoc, pq] at this
    omega
  have mq : ((m * 2 ^ (51 - m.log2) : Nat) : Int) * ((2 ^ m.log2 : Nat) : Int) = (m : Int) * 2251799813685248 := by
    rw [← Int.natCast_mul, Nat.mul_assoc, Nat.mul_comm (2 ^ (51 - m.log2)), pq, Int.natCast_mul]; rfl
  obtain ⟨V1, f1, z1⟩ := own_rep (((m * 2 ^ (51 - m.log2) : Nat) : Int) + 1) (1023 + m.log2) (by omega) (by omega)
  obtain ⟨V2, f2, z2⟩ := own_rep (((m * 2 ^ (51 - m.log2) : Nat) : Int) - 1) (1023 + m.log2) (by omega) (by omega)
  obtain ⟨V3, f3, z3⟩ := own_rep 1 (1023 + m.log2) (by decide) (by omega)
  obtain ⟨V4, f4, z4⟩ := own_rep (-1) (1023 + m.log2) (by decide) (by omega)
  rw [pw, Int.add_mul, mq, Int.one_mul, Int.add_mul] at z1
  rw [pw, Int.sub_mul, mq, Int.one_mul, Int.sub_mul] at z2
  rw [pw, Int.one_mul] at z3
  rw [pw, Int.neg_mul, Int.one_mul, Int.neg_mul] at z4
  have hU : (m : Int) * own_U = (m : Int) * 2251799813685248 * ((2 ^ 1023 : Nat) : Int) := by rw [own_UW, Int.mul_assoc]
  have hW : 0 < ((2 ^ 1023 : Nat) : Int) := Int.natCast_pos.mpr (Nat.two_pow_pos _)
  have hzn := hn.2
  rw [hU] at r1 r2 hzn
  -- twice the unit: P * W
  have e1 : (m : Int) * 2251799813685248 * ((2 ^ 1023 : Nat) : Int) < 4503599627370496 * (((2 ^ m.log2 : Nat) : Int) * ((2 ^ 1023 : Nat) : Int)) := by
    have : (m : Int) * 2251799813685248 < 4503599627370496 * ((2 ^ m.log2 : Nat) : Int) := by omega
    rw [← Int.mul_assoc]; exact Int.mul_lt_mul_of_pos_right this hW
  have e2 : ((2 ^ m.log2 : Nat) : Int) * ((2 ^ 1023 : Nat) : Int) ≤ (m : Int) * ((2 ^ 1023 : Nat) : Int) := Int.mul_le_mul_of_nonneg_right (Int.ofNat_le.mpr l1) (Int.le_of_lt hW)
  generalize hPW : ((2 ^ m.log2 : Nat) : Int) * ((2 ^ 1023 : Nat) : Int) = PW at *
  generalize hMW : (m : Int) * ((2 ^ 1023 : Nat) : Int) = MW at *
  generalize hNN : (m : Int) * 2251799813685248 * ((2 ^ 1023 : Nat) : Int) = NN at *
  generalize own_zv (own_r1_0 q) * (100 + q.toInt) = PR at *
  have g1 := hp.2.2 V1 f1.ne_nan (by omega)
  have g2 := hp.2.1 V2 f2.ne_nan (by omega)
  have NN0 : 0 ≤ NN := by rw [← hNN]; exact Int.mul_nonneg (by omega) (Int.le_of_lt hW)
  have P0 : 0 ≤ PW := by rw [← hPW]; exact Int.mul_nonneg (Int.natCast_nonneg _) (Int.le_of_lt hW)
  have pf : FP.Core.DFin (FP.dmul (own_r1_0 q) d) := own_fin_of hp.1 f1 (by omega)
  have hs := own_dsub_rnd pf hn.1
  have g3 := hs.2.2 V3 f3.ne_nan (by omega)
  have g4 := hs.2.1 V4 f4.ne_nan (by omega)
  exact ⟨pf, own_fin_of hs.1 f3 (by omega), by omega, by omega⟩
end Q
theorem own_x_c28_hc2 (p0_0 : Int32) (p0_1 : Int32) : ¬ ((own_j0_3 p0_0 p0_1) < (1 : Int32)) := by
  have := (own_qb p0_0 p0_1).1
  rw [Int32.lt_iff_toInt_lt]; show ¬ _ < 1; omega
theorem own_x_c28_nn24 (p0_0 : Int32) (p0_1 : Int32) : NoNaN64 (FP.dmul (4636807660098813952 : UInt64) (FP.i2d (own_j0_3 p0_0 p0_1))) := own_fin_nn (own_num _ (own_qb p0_0 p0_1).1 (own_qb p0_0 p0_1).2).1
theorem own_x_c28_nn30 (p0_0 : Int32) (p0_1 : Int32) : NoNaN64 (FP.dadd (4636737291354636288 : UInt64) (FP.i2d (own_j0_3 p0_0 p0_1))) := own_fin_nn (own_den _ (own_qb p0_0 p0_1).1 (own_qb p0_0 p0_1).2).1
theorem own_x_c28_nn31 (p0_0 : Int32) (p0_1 : Int32) : NoNaN64 (FP.ddiv (FP.dmul (4636807660098813952 : UInt64) (FP.i2d (own_j0_3 p0_0 p0_1))) (FP.dadd (4636737291354636288 : UInt64) (FP.i2d (own_j0_3 p0_0 p0_1)))) := own_rnd_nn (own_quo _ (own_qb p0_0 p0_1).1 (own_qb p0_0 p0_1).2)
theorem own_nr (p0_0 p0_1 : Int32) : FP.Core.DFin (FP.dmul (own_v0_4 p0_0 p0_1) (own_v0_6 p0_0 p0_1)) ∧ FP.Core.DFin (own_v0_7 p0_0 p0_1) ∧ own_zv (own_v0_7 p0_0 p0_1) ≤ 101 * (own_j0_3 p0_0 p0_1).toInt * ((2 ^ 1023 : Nat) : Int) ∧ -(101 * (own_j0_3 p0_0 p0_1).toInt * ((2 ^ 1023 : Nat) : Int)) ≤ own_zv (own_v0_7 p0_0 p0_1) :=
  own_near _ (own_qb p0_0 p0_1).1 (own_qb p0_0 p0_1).2 (own_dl _ (own_qb p0_0 p0_1).1 (own_qb p0_0 p0_1).2) (own_nl _ (own_qb p0_0 p0_1).1 (own_qb p0_0 p0_1).2)
theorem own_tol (p0_0 p0_1 : Int32) : FP.Core.DFin (own_v0_8 p0_0 p0_1) ∧ own_zv (own_v0_8 p0_0 p0_1) = 101 * (own_j0_3 p0_0 p0_1).toInt * ((2 ^ 1023 : Nat) : Int) := by
  have hb := own_qb p0_0 p0_1
  have hn := own_nl _ hb.1 hb.2
  refine own_exact (own_dmul_rnd hn.1 own_ktol.1) (101 * (own_j0_3 p0_0 p0_1).toInt) 1023 (by omega) (by decide) ?_
  rw [hn.2, own_ktol.2]; simp only [Int.mul_assoc, Int.mul_comm, Int.mul_left_comm]
theorem own_x_nn53 (p0_0 : Int32) (p0_1 : Int32) : NoNaN64 (FP.dmul (own_v0_4 p0_0 p0_1) (own_v0_6 p0_0 p0_1)) := own_fin_nn (own_nr p0_0 p0_1).1
theorem own_x_nn56 (p0_0 : Int32) (p0_1 : Int32) : NoNaN64 (FP.dsub (FP.dmul (own_v0_4 p0_0 p0_1) (own_v0_6 p0_0 p0_1)) (own_v0_5 p0_0 p0_1)) := own_fin_nn (own_nr p0_0 p0_1).2.1
theorem own_x_nn64 (p0_0 : Int32) (p0_1 : Int32) : NoNaN64 (FP.dmul (own_v0_5 p0_0 p0_1) (4377498837804122112 : UInt64)) := own_fin_nn (own_tol p0_0 p0_1).1
theorem own_x_hc72 (p0_0 : Int32) (p0_1 : Int32) : ¬ ((0 : Int32) < (cmpValue (FP.dcmp (own_v0_7 p0_0 p0_1) (own_v0_8 p0_0 p0_1)) .g)) := by
  obtain ⟨-, f, a, b⟩ := own_nr p0_0 p0_1; obtain ⟨g, t⟩ := own_tol p0_0 p0_1
  exact own_cmp_le f.ne_nan g.ne_nan (by omega) _
theorem own_x_hc81 (p0_0 : Int32) (p0_1 : Int32) : ¬ ((0 : Int32) < (cmpValue (FP.dcmp (FP.dneg (own_v0_7 p0_0 p0_1)) (own_v0_8 p0_0 p0_1)) .g)) := by
  obtain ⟨-, f, a, b⟩ := own_nr p0_0 p0_1; obtain ⟨g, t⟩ := own_tol p0_0 p0_1; obtain ⟨f', z⟩ := own_dneg_zv f
  exact own_cmp_le f'.ne_nan g.ne_nan (by omega) _
theorem own_x_hc94 (p0_0 : Int32) (p0_1 : Int32) : ¬ ((0 : Int32) < (cmpValue (FP.dcmp (4607182418800017408 : UInt64) (own_v0_4 p0_0 p0_1)) .g)) := by
  have hb := own_qb p0_0 p0_1; have hr := own_quo _ hb.1 hb.2; have hU := own_U_pos
  refine own_cmp_le own_k1.1.ne_nan hr.1 (hr.2.1 _ own_k1.1.ne_nan ?_) _
  rw [own_k1.2, Int.one_mul, Int.mul_comm]; exact Int.mul_le_mul_of_nonneg_right (by omega) (Int.le_of_lt hU)
theorem own_x_hc102 (p0_0 : Int32) (p0_1 : Int32) : (cmpValue (FP.dcmp (own_v0_4 p0_0 p0_1) (4636807660098813952 : UInt64)) .g) < (0 : Int32) := by
  have hb := own_qb p0_0 p0_1; have hr := own_quo _ hb.1 hb.2; have hU := own_U_pos
  obtain ⟨V, f, z⟩ := own_rep 105906175 1054 (by decide) (by decide)
  have e : own_U = 1048576 * ((2 ^ 1054 : Nat) : Int) := by rw [own_U_eq]; decide +kernel
  have h54 : 0 < ((2 ^ 1054 : Nat) : Int) := Int.natCast_pos.mpr (Nat.two_pow_pos _)
  have k := hr.2.2 V f.ne_nan (by
    rw [z, e]
    generalize ((2 ^ 1054 : Nat) : Int) = W at *
    have a : 101 * (own_j0_3 p0_0 p0_1).toInt * 1048576 ≤ 105906175 * (100 + (own_j0_3 p0_0 p0_1).toInt) := by omega
    have b := Int.mul_le_mul_of_nonneg_right a (Int.le_of_lt h54)
    have c1 : 101 * (own_j0_3 p0_0 p0_1).toInt * (1048576 * W) = 101 * (own_j0_3 p0_0 p0_1).toInt * 1048576 * W := by rw [← Int.mul_assoc]
    have c2 : 105906175 * W * (100 + (own_j0_3 p0_0 p0_1).toInt) = 105906175 * (100 + (own_j0_3 p0_0 p0_1).toInt) * W := by simp only [Int.mul_assoc, Int.mul_comm, Int.mul_left_comm]
    rw [c1, c2]; exact b)
  refine own_cmp_lt hr.1 own_k101.1.ne_nan ?_ _
  rw [own_k101.2, e]; rw [z] at k
  generalize ((2 ^ 1054 : Nat) : Int) = W at *
  show own_zv (own_r1_0 _) < _
  omega
theorem own_x_hc120 (p0_0 : Int32) (p0_1 : Int32) : (own_j0_3 p0_0 p0_1) = (1 : Int32) → (cmpValue (FP.dcmp (own_v0_4 p0_0 p0_1) (4607182418800017408 : UInt64)) .l) = (0 : Int32) := by
  intro hq
  have hb := own_qb p0_0 p0_1; have hr := own_quo _ hb.1 hb.2
  have e1 : (own_j0_3 p0_0 p0_1).toInt = 1 := by rw [hq]; rfl
  rw [e1] at hr
  obtain ⟨f, z⟩ := own_exactV hr own_k1.1 (by rw [own_k1.2]; omega)
  exact own_cmp_eq f.ne_nan own_k1.1.ne_nan z _

set_option maxRecDepth 65536 in
set_option maxHeartbeats 40000000 in
theorem comes_1 {Post : Tables → Env → Array Value → State → Outcome → State → Prop} (hpost : ∀ tb e args s v u, (limb_1_1.after args s (.returned v) u = true ∧ limb_1_2.after args s (.returned v) u = true ∧ True) → FrameEnd s (.returned v) u (Jvm.fieldLocs frame_1_writes args s ++ Jvm.arrayLocs frame_1_arrays args s ++ Jvm.staticLocs frame_1_statics s) 0 0 → Post tb e args s (.returned v) u) :
    ArmFor flags0 classFile x code maxLocals ret World_1 tables_1 room_1 Calls_1 rest_1 Pre_1 Post := by
  intro l hfl _ _ p e ha hc hk s m args below hf hA hF happ hP
  obtain ⟨hcalls, hrest, hpre⟩ := hP
  obtain ⟨-, -, -, hnamed, -, -, -, hat⟩ := (Spec.applies_iff hf).mp happ
  obtain ⟨hg, hn⟩ := and_e (Cond.before_iff.mp (show (Jvm.Cond.and given_1 narrow_1).before args s = true from hpre))
  obtain ⟨g1a, g1b⟩ := and_e hg
  obtain ⟨g2a, g2b⟩ := and_e g1b
  obtain ⟨w0, w1, rfl⟩ : ∃ w0 w1 : Value, args = #[w0, w1] := by
    have hs : args.size = 2 := by simpa [Cond.value, given_1] using g1a
    obtain ⟨L⟩ := args
    match L, hs with
    | [w0, w1], _ => exact ⟨w0, w1, rfl⟩
  have hw := fun d (hd : d ∈ tables_1) => atoms_spec (ws := Jvm.Cond.code x code maxLocals ret :: tables_1) hat d (List.mem_cons_of_mem _ hd)
  obtain ⟨i0, ei0⟩ := is_v g2a
  obtain rfl : w0 = (.int i0) := Option.some.inj ei0
  obtain ⟨i1, ei1⟩ := is_v g2b
  obtain rfl : w1 = (.int i1) := Option.some.inj ei1
  obtain ⟨n, o, h1, h2, h3, _, L, rfl, ⟨rfl, N⟩, hq⟩ := own_rm0 l s _ hw tables_1 i0 i1 s.heap s.heap.size (Nat.le_refl _) (by first | exact own_x_c28_hc2 i0 i1 | exact own_x_c28_hc2 i0 i1) (by first | exact own_x_c28_nn24 i0 i1 | exact own_x_c28_nn24 i0 i1) (by first | exact own_x_c28_nn30 i0 i1 | exact own_x_c28_nn30 i0 i1) (by first | exact own_x_c28_nn31 i0 i1 | exact own_x_c28_nn31 i0 i1) (by first | exact own_x_nn53 i0 i1 | exact own_x_nn53 i0 i1) (by first | exact own_x_nn56 i0 i1 | exact own_x_nn56 i0 i1) (by first | exact own_x_nn64 i0 i1 | exact own_x_nn64 i0 i1) (by first | exact own_x_hc72 i0 i1 | exact own_x_hc72 i0 i1) (by first | exact own_x_hc81 i0 i1 | exact own_x_hc81 i0 i1) (by first | exact own_x_hc94 i0 i1 | exact own_x_hc94 i0 i1) (by first | exact own_x_hc102 i0 i1 | exact own_x_hc102 i0 i1) (by first | exact own_x_hc120 i0 i1 | exact own_x_hc120 i0 i1) p e ha hc hk s m _ below hf ((Spec.applies_iff_loose hf).mp happ).1 ⟨rfl, State.Warmed39.refl s, rfl⟩ trivial
  refine ⟨n, _, h1, h2, h3, hpost _ _ _ _ _ _ ⟨Cond.after_iff.mpr rfl, Cond.after_iff.mpr (eq_i res_at (Term.int_eval (1)) rfl), trivial⟩ ⟨hq.1, hq.2.1, (hq.2.2.sift fun y hy => Or.inr (N y hy)).mono (by decide) (by decide)⟩⟩
theorem main_1_1 : Claimed_1_1 := comes_1 fun _ _ _ _ _ _ h hF => ⟨h.1, hF⟩
theorem main_1_2 : Claimed_1_2 := comes_1 fun _ _ _ _ _ _ h hF => ⟨h.2.1, hF⟩
end Jvm.Pilot.@@N@@
namespace Jvm.Pilot.@@N@@
open Jvm Jvm.ClassFile Sem Op Lib Jvm.Free Jvm.Stand Jvm.Pilot.@@N@@.Jvm.D
/-! MADE BY PROGRAM (witnessworld.py) out of the Statement's table words and the real class files: 9 classes; the members and pool entries that the words name. The judged class is class 1, her method 1. -/
namespace start1
open Jvm.ClassFile
def u (s : String) : CpInfo := .utf8 (stringToUtf16 s)
/-- a pool by its gaps: so many unusable entries, then the entry; so many at the end -/
def gap : Nat → List CpInfo → List CpInfo
  | 0, r => r
  | n + 1, r => .unusable :: gap n r
def poolList (es : List (Nat × CpInfo)) (last : Nat) : List CpInfo := es.foldr (fun e r => gap e.1 (e.2 :: r)) (gap last [])
def pool (es : List (Nat × CpInfo)) (last : Nat) : Array CpInfo := ⟨poolList es last⟩
def fileOf (pool : Array CpInfo) (this : Nat) (attrs : Array Attribute := #[]) (ms : Array MethodInfo := #[]) (fl : Nat := 33) (sup : Nat := 0) (ifs : Array Nat := #[]) (fds : Array FieldInfo := #[]) : ClassFile where
  minorVersion := 0
  majorVersion := 65
  constantPool := pool
  accessFlags := fl
  thisClass := this
  superClass := sup
  interfaces := ifs
  fields := fds
  methods := ms
  attributes := attrs
def plain (name : String) (sup : Option ClassId) : Class where
  name := name
  kind := .ordinary
  loader := none
  accessFlags := 33
  super := sup
  interfaces := #[]
  cf := none
  fields := #[]
  methods := #[]
  instanceTypes := #[]
  staticTypes := #[]
  resolved := #[]
  callSites := []
  init := .initialized
  statics := none
  mirror := none

def pool0 : Array CpInfo := pool [(5, u "<init>"), (0, u "()V"), (1, .class_ 10), (1, u "java/lang/Object")] 113

def k0m0 : Method := { name := "<init>", desc := "()V", sig := { parameters := [], returnType := none }, accessFlags := 1, code := none }
/-- java/lang/Object -/
def k0 : Class := { plain "java/lang/Object" none with
  accessFlags := 33
  interfaces := #[]
  cf := some (fileOf pool0 8 #[] #[{ accessFlags := 1, nameIndex := 5, descriptorIndex := 6, attributes := #[] }] 33 0 #[] #[])
  fields := #[]
  methods := #[k0m0]
  instanceTypes := #[]
  staticTypes := #[]
  resolved := Array.replicate 124 none
  statics := none }

def pool1 : Array CpInfo := pool [(2, .class_ 4), (1, u "java/lang/Object"), (0, u "<init>"), (0, u "()V"), (0, .integer 2147483647), (0, .methodref 9 10), (0, .class_ 11), (0, .nameAndType 12 13), (0, u "com/example/dipper/dipper/Bm25"), (0, u "queryFactor"), (0, u "(I)D"), (0, .long 101), (1, .long 100), (1, .double 4377498837804122112), (1, .double 4636807660098813952), (1, .class_ 23), (0, u "com/example/dipper/dipper/Bm25QueryFactorPinLaw"), (2, u "law"), (0, u "(II)Z")] 3

def k1m0 : Method := { name := "<init>", desc := "()V", sig := { parameters := [], returnType := none }, accessFlags := 1, code := none }
def k1c1 : Code := { maxStack := 4, maxLocals := 16, code := code, exceptionTable := #[], attributes := #[] }
def k1m1 : Method := { name := "law", desc := "(II)Z", sig := { parameters := [.int, .int], returnType := some .boolean }, accessFlags := 9, code := some k1c1 }
/-- com/example/dipper/dipper/Bm25QueryFactorPinLaw -/
def k1 : Class := { plain "com/example/dipper/dipper/Bm25QueryFactorPinLaw" (some 0) with
  accessFlags := 49
  interfaces := #[]
  cf := some (fileOf pool1 22 #[] #[{ accessFlags := 1, nameIndex := 5, descriptorIndex := 6, attributes := #[] }, { accessFlags := 9, nameIndex := 26, descriptorIndex := 27, attributes := #[] }] 49 2 #[] #[])
  fields := #[]
  methods := #[k1m0, k1m1]
  instanceTypes := #[]
  staticTypes := #[]
  resolved := Array.replicate 31 none
  statics := none }

def pool2 : Array CpInfo := pool [(2, .class_ 4), (1, u "java/lang/Object"), (21, .class_ 28), (1, u "com/example/dipper/dipper/Bm25"), (0, u "documentCount"), (0, u "J"), (2, u "averageLength"), (0, u "D"), (14, .double 4636807660098813952), (1, .double 4636737291354636288), (7, u "(I)D"), (18, u "queryFactor"), (3, u "K1"), (1, u "B"), (0, u "K2")] 31

def k2c0 : Code := { maxStack := 6, maxLocals := 1, code := prog_3_method_3_code, exceptionTable := #[], attributes := #[] }
def k2m0 : Method := { name := "queryFactor", desc := "(I)D", sig := { parameters := [.int], returnType := some .double }, accessFlags := 9, code := some k2c0 }
/-- com/example/dipper/dipper/Bm25 -/
def k2 : Class := { plain "com/example/dipper/dipper/Bm25" (some 0) with
  accessFlags := 33
  interfaces := #[]
  cf := some (fileOf pool2 26 #[] #[{ accessFlags := 9, nameIndex := 78, descriptorIndex := 59, attributes := #[] }] 33 2 #[] #[{ accessFlags := 26, nameIndex := 82, descriptorIndex := 34, attributes := #[] }, { accessFlags := 26, nameIndex := 84, descriptorIndex := 34, attributes := #[] }, { accessFlags := 26, nameIndex := 85, descriptorIndex := 34, attributes := #[] }, { accessFlags := 18, nameIndex := 29, descriptorIndex := 30, attributes := #[] }, { accessFlags := 18, nameIndex := 33, descriptorIndex := 34, attributes := #[] }])
  fields := #[{ name := "K1", type := .double, accessFlags := 26, slot := 0, constantValue := 0 }, { name := "B", type := .double, accessFlags := 26, slot := 1, constantValue := 0 }, { name := "K2", type := .double, accessFlags := 26, slot := 2, constantValue := 0 }, { name := "documentCount", type := .long, accessFlags := 18, slot := 0, constantValue := 0 }, { name := "averageLength", type := .double, accessFlags := 18, slot := 1, constantValue := 0 }]
  methods := #[k2m0]
  instanceTypes := #[.long, .double]
  staticTypes := #[.double, .double, .double]
  resolved := Array.replicate 117 none
  statics := none }

def pool3 : Array CpInfo := pool [(1, u "java/lang/Cloneable"), (0, .class_ 1), (0, u "java/lang/Object"), (0, .class_ 3)] 3

/-- java/lang/Cloneable -/
def k3 : Class := { plain "java/lang/Cloneable" (some 0) with
  accessFlags := 1537
  interfaces := #[]
  cf := some (fileOf pool3 2 #[] #[] 1537 4 #[] #[])
  fields := #[]
  methods := #[]
  instanceTypes := #[]
  staticTypes := #[]
  resolved := Array.replicate 8 none
  statics := none }

def pool4 : Array CpInfo := pool [(1, u "java/io/Serializable"), (0, .class_ 1), (0, u "java/lang/Object"), (0, .class_ 3)] 3

/-- java/io/Serializable -/
def k4 : Class := { plain "java/io/Serializable" (some 0) with
  accessFlags := 1537
  interfaces := #[]
  cf := some (fileOf pool4 2 #[] #[] 1537 4 #[] #[])
  fields := #[]
  methods := #[]
  instanceTypes := #[]
  staticTypes := #[]
  resolved := Array.replicate 8 none
  statics := none }

/-- the primitive byte -/
def k5 : Class := { plain "byte" none with kind := .primitive 'B', accessFlags := 0x411 }
/-- [B -/
def k6 : Class := { plain "[B" (some 0) with kind := .array 5 .byte, interfaces := #[3, 4], accessFlags := 1041 }

/-- the primitive int -/
def k7 : Class := { plain "int" none with kind := .primitive 'I', accessFlags := 0x411 }
/-- [I -/
def k8 : Class := { plain "[I" (some 0) with kind := .array 7 .int, interfaces := #[3, 4], accessFlags := 1041 }

def heap : Heap := #[]
def classes : Array Class := #[k0, k1, k2, k3, k4, k5, k6, k7, k8]
def interned : List (Array UInt16 × Addr) := []
def slotsUsed : Nat := 0
def theMethod : MethodId := ⟨1, 1⟩
def args0 : Array Value := #[.int 5, .int 6]
def aboutOver (below : List Frame) : State where
  vm := { classes := classes, interned := interned.toArray }
  heap := heap
  slotsUsed := slotsUsed
  threads := #[{ frames := .invoking theMethod args0 :: below }]
def below0 : List Frame := [.native { method := ⟨0, 0⟩, args := #[] }]
def about1 : State := aboutOver below0
def p0 : Program := .bare "" "" ""
def e0 : Env := launch0.env 0 0 0
theorem w_frames : about1.frames = Frame.invoking theMethod args0 :: below0 := rfl
set_option maxRecDepth 65536 in
theorem w_args : argsFit about1.vm theMethod args0 = true := by decide +kernel
set_option maxRecDepth 65536 in
theorem w_heap : heapFits about1 = true := by decide +kernel
set_option maxRecDepth 65536 in
theorem w_runnable : about1.curStatus? = some .runnable := by decide +kernel
set_option maxRecDepth 65536 in
theorem w_alone : about1.alone = true := by decide +kernel
set_option maxRecDepth 65536 in
theorem w_named : about1.methodNamed? x = some theMethod := by decide +kernel
set_option maxRecDepth 65536 in
theorem w_hears : about1.hears theMethod below0 = true := by decide +kernel
set_option maxRecDepth 65536 in
theorem w_ripe : about1.ripe theMethod args0 below0 = true := by decide +kernel
theorem w_running : about1.status = .running := rfl
set_option maxRecDepth 65536 in
theorem w_room : about1.hasRoom e0.platform room_1 = true :=
  launch0.hasRoom_least _ room_1 (by decide +kernel) (by decide +kernel) (by decide +kernel) (by decide +kernel) (by decide +kernel) (by decide +kernel)
theorem allAtoms_all (ts : List Jvm.Cond) (a : Array Jvm.Value) (st : Jvm.State) : (allAtoms ts).before a st = ts.all (fun c => c.before a st) := by
  induction ts with
  | nil => rfl
  | cons c t ih =>
    show (Jvm.Cond.and c (allAtoms t)).before a st = _
    rw [Jvm.Cond.before_and, ih, List.all_cons]
def words1 : List Jvm.Cond := Jvm.Cond.code x code maxLocals ret :: tables_1
/-- a 'code' word, met by the world's own term for the bytes: nothing is compared byte by byte -/
theorem code_word {y : MethodName} {bytes : ByteArray} {mx : Nat} {rt : Option FieldType} {a : Array Value} {s : State} {m : MethodId} {meth : Method} {c : Code} (h1 : s.methodNamed? y = some m) (h2 : s.vm.method? m = some meth) (h3 : meth.code = some c) (h4 : c.code = bytes)
    (h5 : (c.maxLocals == mx && c.exceptionTable.isEmpty && decide (c.maxStack ≤ mostOperands) && decide (meth.sig.returnType = rt) && !meth.locks && decide (parseMethodDescriptor y.desc = some meth.sig)) = true) : (Jvm.Cond.code y bytes mx rt).before a s = true := by
  simp only [Bool.and_eq_true, beq_iff_eq, Bool.not_eq_true', decide_eq_true_eq] at h5
  obtain ⟨⟨⟨⟨⟨g1, g2⟩, g3⟩, g4⟩, g5⟩, g6⟩ := h5
  simp [Cond.before, Cond.holds, Cond.value, h1, h2, h3, h4, g1, g2, g3, g4, g5, g6]
def isCode : Jvm.Cond → Bool
  | .code _ _ _ _ => true
  | _ => false
theorem all_split {L : List Jvm.Cond} {P : Jvm.Cond → Bool} (h1 : L.all (fun c => isCode c || P c) = true) (h2 : ∀ c ∈ L.filter isCode, P c = true) : L.all P = true := by
  refine List.all_eq_true.mpr fun c hc => ?_
  have h := List.all_eq_true.mp h1 c hc
  rcases Bool.eq_false_or_eq_true (isCode c) with hi | hi
  · exact h2 c (List.mem_filter.mpr ⟨hc, hi⟩)
  · simpa [hi] using h
set_option maxRecDepth 65536 in
theorem w_c0 : (Jvm.Cond.code x code maxLocals ret).before args0 about1 = true := code_word (m := ⟨1, 1⟩) (meth := k1m1) (c := k1c1) (by decide +kernel) rfl rfl rfl (by decide +kernel)
set_option maxRecDepth 65536 in
theorem w_c1 : (Jvm.Cond.code ({ cls := "com/example/dipper/dipper/Bm25", name := "queryFactor", desc := "(I)D" } : Jvm.MethodName) prog_3_method_3_code (1 : Nat) (Option.some Jvm.ClassFile.FieldType.double)).before args0 about1 = true := code_word (m := ⟨2, 0⟩) (meth := k2m0) (c := k2c0) (by decide +kernel) rfl rfl rfl (by decide +kernel)
def codes1 : List Jvm.Cond := [Jvm.Cond.code x code maxLocals ret, Jvm.Cond.code ({ cls := "com/example/dipper/dipper/Bm25", name := "queryFactor", desc := "(I)D" } : Jvm.MethodName) prog_3_method_3_code (1 : Nat) (Option.some Jvm.ClassFile.FieldType.double)]
set_option maxRecDepth 65536 in
theorem codes_eq : words1.filter isCode = codes1 := rfl
theorem w_codes : ∀ c ∈ words1.filter isCode, c.before args0 about1 = true := by
  rw [codes_eq]
  intro c hc
  simp only [codes1, List.mem_cons, List.not_mem_nil, or_false] at hc
  rcases hc with rfl | rfl
  · exact w_c0
  · exact w_c1
set_option maxRecDepth 65536 in
theorem w_t1 : words1.all (fun c => isCode c || c.before args0 about1) = true := by decide +kernel
theorem w_tables : (allAtoms (Jvm.Cond.code x code maxLocals ret :: tables_1)).before args0 about1 = true := by
  rw [allAtoms_all]
  show words1.all (fun c => c.before args0 about1) = true
  refine all_split ?_ w_codes
  rw [w_t1]
set_option maxRecDepth 65536 in
theorem w_case : (Jvm.Cond.and given_1 narrow_1).before args0 about1 = true := by decide +kernel
theorem w_applies : (headSpec (Jvm.Cond.code x code maxLocals ret :: tables_1) room_1).applies x e0.platform about1 = true :=
  (Spec.applies_iff w_frames).mpr ⟨w_running, w_runnable, w_alone, w_named, w_hears, w_ripe, w_room, w_tables⟩
theorem atStart : AtStart classFile x code maxLocals ret World_1 tables_1 room_1 Calls_1 rest_1 Pre_1 launch0 p0 e0 about1 theMethod args0 below0 :=
  ⟨lists_1, trivial, launch0.admits_env _ _ _, launch0.least_env, fairChoices_fair.cas, fairChoices_fair.clock, w_frames, w_args, w_heap, w_applies, trivial, trivial, w_case⟩
end start1
theorem witness_1 : WitnessClaimed_1 := ⟨start1.p0, start1.e0, start1.about1, start1.theMethod, start1.args0, start1.below0, start1.atStart⟩
end Jvm.Pilot.@@N@@
