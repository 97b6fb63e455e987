import JvmDerived
import JvmDerived.Pilot.@@N@@Statement
import JvmDerived.Pilot.@@N@@Code
@@BLOCK:NumsL.lean.txt@@
set_option linter.unusedVariables false
set_option linter.unusedSimpArgs false
namespace Jvm.RoadKit
open Sem ClassFile Op Lib Jvm.Stand Jvm.Free Jvm.LawKit
section New
variable {p : Program} {l : Launch} {e : Env} {R : Room} {s : State} {m : MethodId} {args : Array Value} {below : List Frame} {meth : Method} {c : Code} {T : State} {locs : List Loc} {cells slots : Nat}
theorem retI (X : Stand p l e R s m args below meth c T locs cells slots) (hx : p.tables.exec = Jvm.exec) {pc : Nat} {Ls : Array Slot} {z : Int32} {rest : List Value} (hret : meth.sig.returnType = some .int) (hd : decode c.code pc = .ok (.ireturn, 1)) {fs : List Frame}
    (hl : ∀ (f : JFrame) (acts : List Action), f.method = m → f.locked = none → f.entered = [] → (doReturn e (T.setTop f) acts (some (.int z))).1 = T.setFrames fs) : Steps p.tables e below (T.setTop (mkF m pc Ls (.int z :: rest))) (T.setFrames fs) := by
  have hm' : T.vm.method? m = some meth := X.method'
  have hn : narrow .int (.int z) = .int z := rfl
  show Steps p.tables e below (T.setTop { method := m, pc := pc, locals := Ls, stack := _ :: rest, locked := none }) _
  jvm_step X.here [X.here.top, hx, hd, hm', hret, hn]
  first | (intro acts; rw [hl _ acts rfl rfl rfl]) | rw [hl _ _ rfl rfl rfl]
  exact Steps.refl _
theorem own_retD (X : Stand p l e R s m args below meth c T locs cells slots) (hx : p.tables.exec = Jvm.exec) {pc : Nat} {Ls : Array Slot} {z : UInt64} {rest : List Value} (hret : meth.sig.returnType = some .double) (hd : decode c.code pc = .ok (.dreturn, 1)) {fs : List Frame}
    (hl : ∀ (f : JFrame) (acts : List Action), f.method = m → f.locked = none → f.entered = [] → (doReturn e (T.setTop f) acts (some (.double z))).1 = T.setFrames fs) : Steps p.tables e below (T.setTop (mkF m pc Ls (.double z :: rest))) (T.setFrames fs) := by
  have hm' : T.vm.method? m = some meth := X.method'
  have hn : narrow .double (.double z) = .double z := rfl
  show Steps p.tables e below (T.setTop { method := m, pc := pc, locals := Ls, stack := _ :: rest, locked := none }) _
  jvm_step X.here [X.here.top, hx, hd, hm', hret, hn]
  first | (intro acts; rw [hl _ acts rfl rfl rfl]) | rw [hl _ _ rfl rfl rfl]
  exact Steps.refl _
theorem own_mvM {Z s : State} {a0 args : Array Value} {own host : String} {y : MethodName} {index : Nat} (hZ : Z.Warmed39 s.vm) (w : (Cond.methodLinkNest own index y host).before a0 Z = true) : (Cond.methodLinkNest own index y host).before args s = true := (Cond.methodLinkNest_wide hZ w :)
theorem own_selP {Z s : State} {a0 args : Array Value} {y : MethodName} {n : Nat} (hZ : Z.Warmed39 s.vm) (wi : (Cond.instantiable y.cls n).before a0 Z = true) (wp : (Cond.privateMethod y).before a0 Z = true) (wm : (Cond.instanceMethod y).before a0 Z = true) (hy : y.cls ≠ "java/lang/invoke/MethodHandle" ∧ y.cls ≠ "java/lang/invoke/VarHandle") : (Cond.selects y.cls y y).before args s = true := by
  obtain ⟨c, k, hc, hk, -, hflags, -⟩ := Cond.instantiable_spec (mvT (args := args) hZ wi)
  have hitf : k.isInterface = false := by
    cases hi : k.isInterface
    · rfl
    · simp [hi] at hflags
  exact selects_self_of_private hc hk hitf (Cond.privateMethod_at (mvP hZ wp (args := args))) (mvT hZ wm) hy
end New
end Jvm.RoadKit
namespace Jvm.Pilot.@@N@@
open Jvm Jvm.ClassFile Sem Op Lib Jvm.Free Jvm.Stand Jvm.LawKit Jvm.RoadKit Bundle Jvm.Free.Fl Jvm.Pilot.@@N@@.Jvm.D
/-! my own laws on doubles: a result is a rounding of its exact value (monotone), exactness, the order -/
section OwnFloat
open Jvm.FP Jvm.FP.Core
/-- the value in units of 2^-1074 -/
def own_zv (a : UInt64) : Int := Core.zval Core.b64 (Core.val64 a)
abbrev own_U : Int := (Core.one64 : Int)
theorem own_U_pos : 0 < own_U := Int.natCast_pos.mpr Core.one64_pos
/-- r is N / D, rounded, as far as the order goes -/
def own_rnd (N D : Int) (r : UInt64) : Prop :=
  Core.val64 r ≠ .nan ∧ (∀ V, Core.val64 V ≠ .nan → own_zv V * D ≤ N → own_zv V ≤ own_zv r) ∧ (∀ V, Core.val64 V ≠ .nan → N ≤ own_zv V * D → own_zv r ≤ own_zv V)
theorem own_fin_ne {a : UInt64} (h : Core.DFin a) : Core.val64 a ≠ .nan := h.ne_nan
theorem own_pow0 : (2 : Nat) ^ (Core.b64.qmin - Core.b64.qmin).toNat = 1 := by rw [Int.sub_self]; rfl
theorem own_rnd_of_round {x : UInt64} {sg : Bool} {n : Nat} {e e0 : Int} (hx : Core.val64 x = Core.round Core.b64 (.fin sg n e)) (h0 : e0 ≤ Core.b64.qmin) (h0e : e0 ≤ e) :
    own_rnd (Core.signed sg (Core.inUnits n e e0)) (((2 ^ (Core.b64.qmin - e0).toNat : Nat) : Int)) x := by
  refine ⟨?_, fun V hV h => ?_, fun V hV h => ?_⟩
  · rw [hx]; intro q; have := Core.round_nan.mp q; cases this
  · have := Core.zval_round_ge Core.good_b64 (s := sg) (c := n) (q := e) (e0 := e0) (V := Core.val64 V) (Core.val64_fits V) hV h0 h0e h
    unfold own_zv; rw [hx]; exact this
  · have := Core.zval_round_le Core.good_b64 (s := sg) (c := n) (q := e) (e0 := e0) (V := Core.val64 V) (Core.val64_fits V) hV h0 h0e h
    unfold own_zv; rw [hx]; exact this
theorem own_dadd_rnd {a b : UInt64} (ha : Core.DFin a) (hb : Core.DFin b) : own_rnd (own_zv a + own_zv b) 1 (FP.dadd a b) := by
  obtain ⟨s, c, q, ea⟩ := ha
  obtain ⟨t, d, r, eb⟩ := hb
  have fa := Core.val64_fits a; have fb := Core.val64_fits b
  rw [ea] at fa; rw [eb] at fb
  obtain ⟨sg, n, e, h1, h2, h3⟩ := Core.sum_units fa fb
  have hv : Core.val64 (FP.dadd a b) = Core.round Core.b64 (.fin sg n e) := by
    show Core.val64 (Core.dadd a b) = _
    rw [Core.val64_dadd, ea, eb, h1]
  have := own_rnd_of_round hv (Int.le_refl _) h2
  rw [h3, own_pow0] at this
  unfold own_zv; rw [ea, eb]; exact this
theorem own_zv_dneg (a : UInt64) : own_zv (Core.dneg a) = -own_zv a := by
  unfold own_zv; rw [Core.val64_dneg, Core.zval_negate]
theorem own_fin_dneg {a : UInt64} (ha : Core.DFin a) : Core.DFin (Core.dneg a) := by
  obtain ⟨s, c, q, ea⟩ := ha
  exact ⟨!s, c, q, by rw [Core.val64_dneg, ea]; rfl⟩
theorem own_dneg_zv {a : UInt64} (ha : Core.DFin a) : Core.DFin (FP.dneg a) ∧ own_zv (FP.dneg a) = -own_zv a := by
  rw [FP.dneg_core ha.notNaN]; exact ⟨own_fin_dneg ha, own_zv_dneg a⟩
theorem own_dsub_rnd {a b : UInt64} (ha : Core.DFin a) (hb : Core.DFin b) : own_rnd (own_zv a - own_zv b) 1 (FP.dsub a b) := by
  have h := own_dadd_rnd ha (own_fin_dneg hb)
  rw [own_zv_dneg] at h
  have e : FP.dsub a b = FP.dadd a (Core.dneg b) := Core.dsub_eq a b
  rw [e, Int.sub_eq_add_neg]; exact h
theorem own_dmul_rnd {a b : UInt64} (ha : Core.DFin a) (hb : Core.DFin b) : own_rnd (own_zv a * own_zv b) own_U (FP.dmul a b) := by
  obtain ⟨s, c, q, ea⟩ := ha
  obtain ⟨t, d, r, eb⟩ := hb
  have fa := Core.val64_fits a; have fb := Core.val64_fits b
  rw [ea] at fa; rw [eb] at fb
  obtain ⟨h1, h2, h3⟩ := Core.product_units fa fb
  have hv : Core.val64 (FP.dmul a b) = Core.round Core.b64 (.fin (s != t) (c * d) (q + r)) := by
    show Core.val64 (Core.dmul a b) = _
    rw [Core.val64_dmul, ea, eb, h1]
  have hq := Core.qmin_neg Core.good_b64
  have := own_rnd_of_round (e0 := 2 * Core.b64.qmin) hv (by omega) h2
  rw [h3, Core.signed_xor, show Core.b64.qmin - 2 * Core.b64.qmin = -Core.b64.qmin by omega, Core.pow_qmin64] at this
  unfold own_zv; rw [ea, eb]; exact this
theorem own_ddiv_rnd {a b : UInt64} (ha : Core.DFin a) (hb : Core.DFin b) (hz : own_zv b ≠ 0) : own_rnd (if 0 < own_zv b then own_zv a * own_U else -(own_zv a * own_U)) (own_zv b).natAbs (FP.ddiv a b) := by
  obtain ⟨s, c, q, ea⟩ := ha
  obtain ⟨t, d, r, eb⟩ := hb
  have fa := Core.val64_fits a; have fb := Core.val64_fits b
  rw [ea] at fa; rw [eb] at fb
  have hq1 := fa.2.1; have hq2 := fb.2.1
  have hqm := Core.qmin_neg Core.good_b64
  have zb : own_zv b = Core.signed t (Core.inUnits d r Core.b64.qmin) := by unfold own_zv; rw [eb]; rfl
  have za : own_zv a = Core.signed s (Core.inUnits c q Core.b64.qmin) := by unfold own_zv; rw [ea]; rfl
  have d0 : d ≠ 0 := fun h => hz (by rw [zb, h]; unfold Core.inUnits; rw [Nat.zero_mul]; exact Core.signed_zero t)
  have hB : 0 < Core.inUnits d r Core.b64.qmin := Nat.mul_pos (Nat.pos_of_ne_zero d0) (Nat.two_pow_pos _)
  have hv : Core.val64 (FP.ddiv a b) = Core.roundRatio Core.b64 (s != t) c d (q - r) := by
    show Core.val64 (Core.ddiv a b) = _
    rw [Core.val64_ddiv, ea, eb]; show (if d = 0 then _ else _) = _; rw [if_neg d0]
  have e1 : Core.inUnits c (q - r) (Core.b64.qmin - (r - Core.b64.qmin)) = Core.inUnits c q Core.b64.qmin * Core.one64 := by
    unfold Core.inUnits
    rw [← Core.pow_qmin64, Nat.mul_assoc, ← Nat.pow_add, show (q - r - (Core.b64.qmin - (r - Core.b64.qmin))).toNat = (q - Core.b64.qmin).toNat + (-Core.b64.qmin).toNat by omega]
  have e2 : ∀ v : Nat, v * 2 ^ (Core.b64.qmin - (Core.b64.qmin - (r - Core.b64.qmin))).toNat * d = v * Core.inUnits d r Core.b64.qmin := fun v => by
    unfold Core.inUnits
    rw [show Core.b64.qmin - (Core.b64.qmin - (r - Core.b64.qmin)) = r - Core.b64.qmin by omega, Nat.mul_assoc, Nat.mul_comm (2 ^ _) d]
  have hle : ∀ V : Core.Datum, Core.fits Core.b64 V → V ≠ .nan → Core.inUnits c q Core.b64.qmin * Core.one64 ≤ Core.zmag Core.b64 V * Core.inUnits d r Core.b64.qmin → Core.zmag Core.b64 (Core.roundRatio Core.b64 (s != t) c d (q - r)) ≤ Core.zmag Core.b64 V := fun V hV hn h =>
    Core.zmag_roundRatio_le Core.good_b64 (e0 := Core.b64.qmin - (r - Core.b64.qmin)) (Nat.pos_of_ne_zero d0) hV hn (by omega) (by omega) (by rw [e1, e2]; exact h)
  have hge : ∀ V : Core.Datum, Core.fits Core.b64 V → V ≠ .nan → Core.zmag Core.b64 V * Core.inUnits d r Core.b64.qmin ≤ Core.inUnits c q Core.b64.qmin * Core.one64 → Core.zmag Core.b64 V ≤ Core.zmag Core.b64 (Core.roundRatio Core.b64 (s != t) c d (q - r)) := fun V hV hn h =>
    Core.zmag_roundRatio_ge Core.good_b64 (e0 := Core.b64.qmin - (r - Core.b64.qmin)) (Nat.pos_of_ne_zero d0) hV (by omega) (by omega) (by rw [e1, e2]; exact h)
  have zr : own_zv (FP.ddiv a b) = Core.signed (s != t) (Core.zmag Core.b64 (Core.roundRatio Core.b64 (s != t) c d (q - r))) := by
    unfold own_zv; rw [hv]; unfold Core.zval; rw [Core.sgn_roundRatio]
  have hN : (if 0 < own_zv b then own_zv a * own_U else -(own_zv a * own_U)) = Core.signed (s != t) (Core.inUnits c q Core.b64.qmin * Core.one64) := by
    rw [zb, za, ← Core.signed_mul]
    cases s <;> cases t <;> simp only [Core.signed, if_true, if_false, Bool.false_eq_true, bne_self_eq_false, Bool.true_bne, Bool.false_bne, Bool.not_false, Bool.not_true] <;> split <;> omega
  have hD : ((own_zv b).natAbs : Int) = (Core.inUnits d r Core.b64.qmin : Nat) := by rw [zb, Core.natAbs_signed]
  have hzz : ∀ v : Nat, v * Core.inUnits d r Core.b64.qmin = 0 → v = 0 := fun v h => by rcases Nat.mul_eq_zero.mp h with h | h <;> omega
  rw [hN, hD]
  refine ⟨by rw [hv]; exact Core.roundRatio_ne_nan _ _ _ _ _, fun V hV h => ?_, fun V hV h => ?_⟩
  all_goals
    have h1 := hle _ (Core.val64_fits V) hV; have h2 := hge _ (Core.val64_fits V) hV; have h3 := hzz (Core.zmag Core.b64 (Core.val64 V))
    rw [zr]
    rw [show own_zv V = Core.signed (Core.sgn (Core.val64 V)) (Core.zmag Core.b64 (Core.val64 V)) from rfl] at h ⊢
    rw [← Core.signed_mul] at h
    generalize Core.zmag Core.b64 (Core.val64 V) * Core.inUnits d r Core.b64.qmin = vP at *
    generalize Core.inUnits c q Core.b64.qmin * Core.one64 = A at *
    generalize Core.sgn (Core.val64 V) = tV at *
    generalize (s != t) = st at *
    cases st <;> cases tV <;> simp only [Core.signed, if_true, Bool.false_eq_true, if_false] at h ⊢
    all_goals first
      | omega
      | (have := h1 (by omega); omega)
      | (have := h2 (by omega); omega)
      | (have := h1 (by omega); have := h3 (by omega); omega)
      | (have := h2 (by omega); have := h3 (by omega); omega)
/-- numbers of 53 digits are doubles -/
theorem own_rep (c : Int) (j : Nat) (hc : c.natAbs < 2 ^ 53) (hj : j ≤ 2045) : ∃ V, Core.DFin V ∧ own_zv V = c * ((2 ^ j : Nat) : Int) := by
  have hq1 : Core.b64.qmin = -1074 := Core.qmin_b64
  have hq2 : Core.b64.qmax = 971 := by decide
  obtain ⟨c', q', h1, h2⟩ := Core.round_exact Core.good_b64 (decide (c < 0)) (c := c.natAbs) (q := Core.b64.qmin + j) hc (by omega) (by omega)
  have hv : Core.val64 (Core.of64 (Core.round Core.b64 (.fin (decide (c < 0)) c.natAbs (Core.b64.qmin + j)))) = .fin (decide (c < 0)) c' q' := by
    rw [Core.val64_of64 (Core.round_fits Core.good_b64 _), h1]
  refine ⟨_, ⟨_, _, _, hv⟩, ?_⟩
  unfold own_zv; rw [hv]
  show Core.signed (decide (c < 0)) (Core.inUnits c' q' Core.b64.qmin) = _
  rw [h2]; unfold Core.inUnits
  rw [Core.signed_mul, show (Core.b64.qmin + (j : Int) - Core.b64.qmin).toNat = j by omega]
  congr 1
  by_cases h : c < 0
  · simp only [Core.signed, h, decide_true, if_true]; omega
  · simp only [Core.signed, h, decide_false, Bool.false_eq_true, if_false]; omega
theorem own_zv_lt {a : UInt64} (h : Core.DFin a) : (own_zv a).natAbs < Core.b64.tails * 2 ^ (Core.b64.exps - 2) := by
  have := Core.DFin.zval_lt h
  unfold own_zv Core.zval; rw [Core.natAbs_signed]; exact this
theorem own_fin_of {r V : UInt64} (hr : Core.val64 r ≠ .nan) (hV : Core.DFin V) (h : (own_zv r).natAbs ≤ (own_zv V).natAbs) : Core.DFin r := by
  cases e : Core.val64 r with
  | nan => exact absurd e hr
  | inf s =>
    have h1 := own_zv_lt hV
    have h2 : (own_zv r).natAbs = Core.b64.tails * 2 ^ (Core.b64.exps - 2) := by unfold own_zv Core.zval; rw [Core.natAbs_signed, e]; rfl
    omega
  | fin s c q => exact ⟨s, c, q, e⟩
/-- what is representable is not rounded -/
theorem own_exactV {N D : Int} {r V : UInt64} (h : own_rnd N D r) (hV : Core.DFin V) (e : own_zv V * D = N) : Core.DFin r ∧ own_zv r = own_zv V := by
  have h1 := h.2.1 V hV.ne_nan (by omega)
  have h2 := h.2.2 V hV.ne_nan (by omega)
  have h3 : own_zv r = own_zv V := by omega
  exact ⟨own_fin_of h.1 hV (by rw [h3]; exact Nat.le_refl _), h3⟩
theorem own_exact {N D : Int} {r : UInt64} (h : own_rnd N D r) (c : Int) (j : Nat) (hc : c.natAbs < 2 ^ 53) (hj : j ≤ 2045) (e : c * ((2 ^ j : Nat) : Int) * D = N) : Core.DFin r ∧ own_zv r = c * ((2 ^ j : Nat) : Int) := by
  obtain ⟨V, f, z⟩ := own_rep c j hc hj
  rw [← z] at e ⊢
  exact own_exactV h f e
/-! the order -/
theorem own_dcmp {a b : UInt64} (ha : Core.val64 a ≠ .nan) (hb : Core.val64 b ≠ .nan) : FP.dcmp a b = some (compare (own_zv a) (own_zv b)) := Core.dcmp_zval ha hb
theorem own_cmpv {a b : UInt64} (ha : Core.val64 a ≠ .nan) (hb : Core.val64 b ≠ .nan) (o : CmpOp) : cmpValue (FP.dcmp a b) o = if own_zv a < own_zv b then -1 else if own_zv a = own_zv b then 0 else 1 := by
  rw [own_dcmp ha hb, Core.compare_ite]
  by_cases h1 : own_zv a < own_zv b
  · simp only [h1, if_true]; cases o <;> rfl
  · by_cases h2 : own_zv a = own_zv b
    · simp only [h2, Int.lt_irrefl, if_true, if_false]; cases o <;> rfl
    · simp only [h1, h2, if_false]; cases o <;> rfl
theorem own_cmp_le {a b : UInt64} (ha : Core.val64 a ≠ .nan) (hb : Core.val64 b ≠ .nan) (h : own_zv a ≤ own_zv b) (o : CmpOp) : ¬ ((0 : Int32) < cmpValue (FP.dcmp a b) o) := by
  rw [own_cmpv ha hb]
  by_cases h1 : own_zv a < own_zv b
  · rw [if_pos h1]; decide
  · rw [if_neg h1, if_pos (by omega)]; decide
theorem own_cmp_ge {a b : UInt64} (ha : Core.val64 a ≠ .nan) (hb : Core.val64 b ≠ .nan) (h : own_zv b ≤ own_zv a) (o : CmpOp) : ¬ (cmpValue (FP.dcmp a b) o < (0 : Int32)) := by
  rw [own_cmpv ha hb, if_neg (by omega)]
  by_cases h1 : own_zv a = own_zv b
  · rw [if_pos h1]; decide
  · rw [if_neg h1]; decide
theorem own_cmp_lt {a b : UInt64} (ha : Core.val64 a ≠ .nan) (hb : Core.val64 b ≠ .nan) (h : own_zv a < own_zv b) (o : CmpOp) : cmpValue (FP.dcmp a b) o < (0 : Int32) := by
  rw [own_cmpv ha hb, if_pos h]; decide
theorem own_cmp_gt {a b : UInt64} (ha : Core.val64 a ≠ .nan) (hb : Core.val64 b ≠ .nan) (h : own_zv b < own_zv a) (o : CmpOp) : (0 : Int32) < cmpValue (FP.dcmp a b) o := by
  rw [own_cmpv ha hb, if_neg (by omega), if_neg (by omega)]; decide
theorem own_cmp_eq {a b : UInt64} (ha : Core.val64 a ≠ .nan) (hb : Core.val64 b ≠ .nan) (h : own_zv a = own_zv b) (o : CmpOp) : cmpValue (FP.dcmp a b) o = (0 : Int32) := by
  rw [own_cmpv ha hb, if_neg (by omega), if_pos h]
theorem own_cmp_ne {a b : UInt64} (ha : Core.val64 a ≠ .nan) (hb : Core.val64 b ≠ .nan) (h : own_zv a ≠ own_zv b) (o : CmpOp) : ¬ (cmpValue (FP.dcmp a b) o = (0 : Int32)) := by
  rw [own_cmpv ha hb]
  by_cases h1 : own_zv a < own_zv b
  · rw [if_pos h1]; decide
  · rw [if_neg h1, if_neg h]; decide
/-! no NaN -/
theorem own_nn {a : UInt64} (h : Core.val64 a ≠ .nan) : NoNaN64 a := noNaN64_no.mpr ((Core.notNaN_iff a).mpr h)
theorem own_rnd_nn {N D : Int} {r : UInt64} (h : own_rnd N D r) : NoNaN64 r := own_nn h.1
theorem own_fin_nn {a : UInt64} (h : Core.DFin a) : NoNaN64 a := own_nn h.ne_nan
/-! whole numbers -/
theorem own_i2d (x : Int32) : Core.DFin (FP.i2d x) ∧ own_zv (FP.i2d x) = x.toInt * own_U := ⟨Core.i2d_fin x, Core.DInt_zval (Core.i2d_int x)⟩
theorem own_l2d {x : Int64} (h : x.toInt.natAbs ≤ 2 ^ 53) : Core.DFin (FP.l2d x) ∧ own_zv (FP.l2d x) = x.toInt * own_U := ⟨Core.l2d_fin x, Core.DInt_zval (Core.l2d_int h)⟩
theorem own_U_eq : own_U = ((2 ^ 1074 : Nat) : Int) := rfl
end OwnFloat
section OwnFloat2
open Jvm.FP Jvm.FP.Core
theorem own_lt_U {i j : Int} : i * own_U < j * own_U ↔ i < j := by
  have h := own_U_pos
  constructor
  · intro q; exact Int.lt_of_mul_lt_mul_right q (Int.le_of_lt h)
  · intro q; exact Int.mul_lt_mul_of_pos_right q h
theorem own_eq_U {i j : Int} : i * own_U = j * own_U ↔ i = j := by
  have h := own_U_pos
  constructor
  · intro q; exact Int.eq_of_mul_eq_mul_right (by omega) q
  · intro q; rw [q]
/-- a is the whole number i -/
def own_is (i : Int) (a : UInt64) : Prop := Core.DFin a ∧ own_zv a = i * own_U
theorem own_is_i2d (x : Int32) : own_is x.toInt (FP.i2d x) := own_i2d x
theorem own_is_neg0 : own_is 0 (9223372036854775808 : UInt64) := ⟨by rw [Core.fin_bits]; decide, by decide +kernel⟩
theorem own_is_0 : own_is 0 (0 : UInt64) := ⟨by rw [Core.fin_bits]; decide, by decide +kernel⟩
theorem own_cmpU {a b : UInt64} {i j : Int} (ha : own_is i a) (hb : own_is j b) (o : CmpOp) : cmpValue (FP.dcmp a b) o = if i < j then -1 else if i = j then 0 else 1 := by
  rw [own_cmpv ha.1.ne_nan hb.1.ne_nan, ha.2, hb.2]; simp only [own_lt_U, own_eq_U]
end OwnFloat2
section OwnFloat3
open Jvm.FP Jvm.FP.Core
theorem own_is_dneg {i : Int} {a : UInt64} (h : own_is i a) : own_is (-i) (FP.dneg a) := by
  obtain ⟨f, z⟩ := own_dneg_zv h.1
  exact ⟨f, by rw [z, h.2, Int.neg_mul]⟩
theorem own_self {a : UInt64} (h : Core.DFin a) (o : CmpOp) : cmpValue (FP.dcmp a a) o = (0 : Int32) := own_cmp_eq h.ne_nan h.ne_nan rfl o
/-- x - x is nought -/
theorem own_dsub_self {a : UInt64} (h : Core.DFin a) : FP.dsub a a = 0 := by
  obtain ⟨s, c, q, e⟩ := h
  exact Core.dsub_self e
end OwnFloat3
section OwnFloat4
open Jvm.FP Jvm.FP.Core
theorem own_rep_le (c : Int) (j : Nat) (hc : c.natAbs ≤ 2 ^ 53) (hj : j ≤ 2044) : ∃ V, Core.DFin V ∧ own_zv V = c * ((2 ^ j : Nat) : Int) := by
  by_cases h : c.natAbs < 2 ^ 53
  · exact own_rep c j h (by omega)
  · obtain ⟨V, f, z⟩ := own_rep (c / 2) (j + 1) (by omega) (by omega)
    refine ⟨V, f, ?_⟩
    rw [z, Nat.pow_succ, Int.natCast_mul]
    have : c = c / 2 * 2 := by omega
    rw [Int.mul_comm ((2 ^ j : Nat) : Int), ← Int.mul_assoc]
    have e : c / 2 * ((2 : Nat) : Int) = c := by omega
    rw [e]
theorem own_rnd_scale {N D k : Int} {r : UInt64} (hk : 0 < k) (h : own_rnd (N * k) (D * k) r) : own_rnd N D r := by
  refine ⟨h.1, fun V hV q => h.2.1 V hV ?_, fun V hV q => h.2.2 V hV ?_⟩
  · rw [← Int.mul_assoc]; exact Int.mul_le_mul_of_nonneg_right q (Int.le_of_lt hk)
  · rw [← Int.mul_assoc]; exact Int.mul_le_mul_of_nonneg_right q (Int.le_of_lt hk)
/-- the relative error, one unit in the last place at the most -/
theorem own_rel {N D : Int} {r : UInt64} (h : own_rnd N D r) (hD : 0 < D) (lo : 4503599627370496 * D ≤ N) (hi : N / D < ((2 ^ 2096 : Nat) : Int)) :
    Core.DFin r ∧ 4503599627370496 * (own_zv r * D - N) ≤ N ∧ 4503599627370496 * (N - own_zv r * D) ≤ N := by
  have hM : 4503599627370496 ≤ N / D := Int.le_ediv_of_mul_le hD lo
  obtain ⟨m, hm⟩ : ∃ m : Nat, N / D = (m : Int) := ⟨(N / D).toNat, by omega⟩
  have hN := Int.mul_ediv_add_emod N D
  have hr0 := Int.emod_nonneg N (show D ≠ 0 by omega)
  have hr1 := Int.emod_lt_of_pos N hD
  have m0 : m ≠ 0 := by omega
  have l1 : 2 ^ m.log2 ≤ m := Nat.log2_self_le m0
  have l2 : m < 2 ^ (m.log2 + 1) := Nat.lt_log2_self
  have l3 : 52 ≤ m.log2 := by
    apply Nat.le_of_lt_succ
    apply (Nat.pow_lt_pow_iff_right (by decide : 1 < 2)).mp
    exact Nat.lt_of_le_of_lt (show 2 ^ 52 ≤ m by omega) l2
  have l4 : m.log2 < 2096 := by
    apply (Nat.pow_lt_pow_iff_right (by decide : 1 < 2)).mp
    exact Nat.lt_of_le_of_lt l1 (by rw [hm] at hi; exact Int.ofNat_lt.mp hi)
  obtain ⟨e, he⟩ : ∃ e, m.log2 = e + 52 := ⟨m.log2 - 52, by omega⟩
  have hg : 0 < 2 ^ e := Nat.two_pow_pos e
  have p1 : 2 ^ m.log2 = 2 ^ e * 4503599627370496 := by rw [he, Nat.pow_add]
  have p2 : 2 ^ (m.log2 + 1) = 2 ^ e * 9007199254740992 := by rw [he, Nat.pow_add, Nat.pow_add]; omega
  have dm := Nat.div_add_mod m (2 ^ e)
  have ml := Nat.mod_lt m hg
  have k1 : 4503599627370496 ≤ m / 2 ^ e := (Nat.le_div_iff_mul_le hg).mpr (by rw [Nat.mul_comm]; omega)
  have k2 : m / 2 ^ e < 9007199254740992 := (Nat.div_lt_iff_lt_mul hg).mpr (by rw [Nat.mul_comm]; omega)
  obtain ⟨V1, f1, z1⟩ := own_rep_le ((m / 2 ^ e : Nat) : Int) e (by omega) (by omega)
  obtain ⟨V2, f2, z2⟩ := own_rep_le ((m / 2 ^ e + 1 : Nat) : Int) e (by omega) (by omega)
  have a1 : ((m / 2 ^ e : Nat) : Int) * ((2 ^ e : Nat) : Int) ≤ (m : Int) := by rw [← Int.natCast_mul]; exact Int.ofNat_le.mpr (Nat.div_mul_le_self _ _)
  have a2 : (m : Int) + 1 ≤ ((m / 2 ^ e + 1 : Nat) : Int) * ((2 ^ e : Nat) : Int) := by
    rw [← Int.natCast_mul]; have : m + 1 ≤ (m / 2 ^ e + 1) * 2 ^ e := by rw [Nat.add_mul, Nat.one_mul, Nat.mul_comm]; omega
    exact Int.ofNat_le.mpr this
  have a3 : ((m / 2 ^ e + 1 : Nat) : Int) * ((2 ^ e : Nat) : Int) = ((m / 2 ^ e : Nat) : Int) * ((2 ^ e : Nat) : Int) + ((2 ^ e : Nat) : Int) := by
    rw [Int.natCast_add, Int.add_mul]; simp
  have a4 : 4503599627370496 * ((2 ^ e : Nat) : Int) ≤ (m : Int) := by
    have : 2 ^ e * 4503599627370496 ≤ m := by omega
    omega
  have b1 : own_zv V1 * D ≤ N := by
    rw [z1]; have := Int.mul_le_mul_of_nonneg_right a1 (Int.le_of_lt hD); rw [hm, Int.mul_comm] at hN; omega
  have b2 : N ≤ own_zv V2 * D := by
    rw [z2]; have := Int.mul_le_mul_of_nonneg_right a2 (Int.le_of_lt hD); rw [Int.add_mul, Int.one_mul] at this; rw [hm, Int.mul_comm] at hN; omega
  have c1 := h.2.1 V1 f1.ne_nan b1
  have c2 := h.2.2 V2 f2.ne_nan b2
  rw [z1] at c1 b1; rw [z2] at c2 b2
  have d1 := Int.mul_le_mul_of_nonneg_right c1 (Int.le_of_lt hD)
  have d2 := Int.mul_le_mul_of_nonneg_right c2 (Int.le_of_lt hD)
  have d3 := Int.mul_le_mul_of_nonneg_right a4 (Int.le_of_lt hD)
  rw [a3, Int.add_mul] at d2 b2
  have d4 : (m : Int) * D ≤ N := by rw [hm, Int.mul_comm] at hN; omega
  rw [Int.mul_assoc] at d3
  refine ⟨own_fin_of h.1 f2 ?_, by omega, by omega⟩
  rw [z2]
  have s0 : 0 ≤ ((m / 2 ^ e : Nat) : Int) * ((2 ^ e : Nat) : Int) := Int.mul_nonneg (Int.natCast_nonneg _) (Int.natCast_nonneg _)
  omega
theorem own_is_mul {i j : Int} {a b : UInt64} (ha : own_is i a) (hb : own_is j b) (h : (i * j).natAbs < 2 ^ 53) : own_is (i * j) (FP.dmul a b) := by
  refine own_exact (own_dmul_rnd ha.1 hb.1) (i * j) 1074 h (by decide) ?_
  rw [ha.2, hb.2, ← own_U_eq]; simp only [Int.mul_assoc, Int.mul_comm, Int.mul_left_comm]
theorem own_is_add {i j : Int} {a b : UInt64} (ha : own_is i a) (hb : own_is j b) (h : (i + j).natAbs < 2 ^ 53) : own_is (i + j) (FP.dadd a b) := by
  refine own_exact (own_dadd_rnd ha.1 hb.1) (i + j) 1074 h (by decide) ?_
  rw [ha.2, hb.2, ← own_U_eq, Int.mul_one, Int.add_mul]
theorem own_is_sub {i j : Int} {a b : UInt64} (ha : own_is i a) (hb : own_is j b) (h : (i - j).natAbs < 2 ^ 53) : own_is (i - j) (FP.dsub a b) := by
  refine own_exact (own_dsub_rnd ha.1 hb.1) (i - j) 1074 h (by decide) ?_
  rw [ha.2, hb.2, ← own_U_eq, Int.mul_one, Int.sub_mul]
theorem own_is_l2d {x : Int64} (h : x.toInt.natAbs ≤ 2 ^ 53) : own_is x.toInt (FP.l2d x) := own_l2d h
/-- the quotient of two whole numbers, the divisor positive -/
theorem own_is_div_rnd {i j : Int} {a b : UInt64} (ha : own_is i a) (hb : own_is j b) (hj : 0 < j) : own_rnd (i * own_U) j (FP.ddiv a b) := by
  have hU := own_U_pos
  have hz : 0 < own_zv b := by rw [hb.2]; exact Int.mul_pos hj hU
  have h := own_ddiv_rnd ha.1 hb.1 (by omega)
  rw [if_pos hz, Int.natAbs_of_nonneg (Int.le_of_lt hz), ha.2, hb.2] at h
  exact own_rnd_scale hU h
end OwnFloat4
section OwnFloat5
open Jvm.FP Jvm.FP.Core
/-- a is c * 2^(j - 1074) -/
def own_at (c : Int) (j : Nat) (a : UInt64) : Prop := Core.DFin a ∧ own_zv a = c * ((2 ^ j : Nat) : Int)
theorem own_at_is {i : Int} {a : UInt64} (h : own_is i a) : own_at i 1074 a := h
theorem own_at_add {c1 c2 : Int} {j : Nat} {a b : UInt64} (ha : own_at c1 j a) (hb : own_at c2 j b) (h : (c1 + c2).natAbs < 2 ^ 53) (hj : j ≤ 2045) : own_at (c1 + c2) j (FP.dadd a b) := by
  refine own_exact (own_dadd_rnd ha.1 hb.1) (c1 + c2) j h hj ?_
  rw [ha.2, hb.2, Int.mul_one, Int.add_mul]
theorem own_at_sub {c1 c2 : Int} {j : Nat} {a b : UInt64} (ha : own_at c1 j a) (hb : own_at c2 j b) (h : (c1 - c2).natAbs < 2 ^ 53) (hj : j ≤ 2045) : own_at (c1 - c2) j (FP.dsub a b) := by
  refine own_exact (own_dsub_rnd ha.1 hb.1) (c1 - c2) j h hj ?_
  rw [ha.2, hb.2, Int.mul_one, Int.sub_mul]
theorem own_at_mul {c1 c2 : Int} {j1 j2 : Nat} {a b : UInt64} (ha : own_at c1 j1 a) (hb : own_at c2 j2 b) (j : Nat) (e : j1 + j2 = j + 1074) (h : (c1 * c2).natAbs < 2 ^ 53) (hj : j ≤ 2045) : own_at (c1 * c2) j (FP.dmul a b) := by
  refine own_exact (own_dmul_rnd ha.1 hb.1) (c1 * c2) j h hj ?_
  have p : ((2 ^ j : Nat) : Int) * own_U = ((2 ^ j1 : Nat) : Int) * ((2 ^ j2 : Nat) : Int) := by rw [own_U_eq, ← Int.natCast_mul, ← Int.natCast_mul, ← Nat.pow_add, ← Nat.pow_add, e]
  rw [ha.2, hb.2, Int.mul_assoc (c1 * c2), p]; simp only [Int.mul_assoc, Int.mul_comm, Int.mul_left_comm]
/-- a quotient that is exact -/
theorem own_at_div {c1 c2 c : Int} {j1 j2 : Nat} {a b : UInt64} (ha : own_at c1 j1 a) (hb : own_at c2 j2 b) (hc : 0 < c2) (j : Nat) (e : c * c2 * ((2 ^ (j + j2) : Nat) : Int) = c1 * ((2 ^ (j1 + 1074) : Nat) : Int)) (h : c.natAbs < 2 ^ 53) (hj : j ≤ 2045) : own_at c j (FP.ddiv a b) := by
  have hz : 0 < own_zv b := by rw [hb.2]; exact Int.mul_pos hc (Int.natCast_pos.mpr (Nat.two_pow_pos _))
  have hr := own_ddiv_rnd ha.1 hb.1 (by omega)
  rw [if_pos hz, Int.natAbs_of_nonneg (Int.le_of_lt hz)] at hr
  refine own_exact hr c j h hj ?_
  rw [ha.2, hb.2, own_U_eq]
  rw [Nat.pow_add, Nat.pow_add, Int.natCast_mul, Int.natCast_mul] at e
  have l : c * ((2 ^ j : Nat) : Int) * (c2 * ((2 ^ j2 : Nat) : Int)) = c * c2 * (((2 ^ j : Nat) : Int) * ((2 ^ j2 : Nat) : Int)) := by simp only [Int.mul_assoc, Int.mul_comm, Int.mul_left_comm]
  rw [l, e, Int.mul_assoc]
theorem own_at_up {c : Int} {j i : Nat} {a : UInt64} (h : own_at c (j + i) a) : own_at (c * ((2 ^ i : Nat) : Int)) j a :=
  ⟨h.1, by rw [h.2, Nat.pow_add, Int.natCast_mul, Int.mul_assoc, Int.mul_comm ((2 ^ i : Nat) : Int)]⟩
theorem own_at_dn {c : Int} {j i : Nat} {a : UInt64} (h : own_at (c * ((2 ^ i : Nat) : Int)) j a) : own_at c (j + i) a :=
  ⟨h.1, by rw [h.2, Nat.pow_add, Int.natCast_mul, Int.mul_assoc, Int.mul_comm ((2 ^ i : Nat) : Int)]⟩
theorem own_at_eq {c : Int} {j : Nat} {a b : UInt64} (ha : own_at c j a) (hb : own_at c j b) (o : CmpOp) : cmpValue (FP.dcmp a b) o = (0 : Int32) := own_cmp_eq ha.1.ne_nan hb.1.ne_nan (by rw [ha.2, hb.2]) o
theorem own_at_nn {c : Int} {j : Nat} {a : UInt64} (h : own_at c j a) : NoNaN64 a := own_fin_nn h.1
end OwnFloat5
section OwnFloat6
open Jvm.FP Jvm.FP.Core
theorem own_is_div {k j : Int} {a b : UInt64} (ha : own_is (k * j) a) (hb : own_is j b) (hj : j ≠ 0) (h : k.natAbs < 2 ^ 53) : own_is k (FP.ddiv a b) := by
  have hU := own_U_pos
  have hz : own_zv b ≠ 0 := by rw [hb.2]; intro q; rcases Int.mul_eq_zero.mp q with q | q <;> omega
  refine own_exact (own_ddiv_rnd ha.1 hb.1 hz) k 1074 h (by decide) ?_
  rw [← own_U_eq]
  by_cases q : 0 < own_zv b
  · rw [if_pos q, Int.natAbs_of_nonneg (Int.le_of_lt q), ha.2, hb.2]; simp only [Int.mul_assoc, Int.mul_comm, Int.mul_left_comm]
  · rw [if_neg q]
    have e : ((own_zv b).natAbs : Int) = -own_zv b := by omega
    rw [e, ha.2, hb.2, Int.mul_neg]; congr 1; simp only [Int.mul_assoc, Int.mul_comm, Int.mul_left_comm]
theorem own_fin_between {r V1 V2 : UInt64} (hr : Core.val64 r ≠ .nan) (h1 : Core.DFin V1) (h2 : Core.DFin V2) (a : own_zv V1 ≤ own_zv r) (b : own_zv r ≤ own_zv V2) : Core.DFin r := by
  by_cases q : (own_zv r).natAbs ≤ (own_zv V1).natAbs
  · exact own_fin_of hr h1 q
  · exact own_fin_of hr h2 (by omega)
/-- a quotient by a whole number, of any dividend -/
theorem own_div_rnd {j : Int} {a b : UInt64} (ha : Core.DFin a) (hb : own_is j b) (hj : 0 < j) : own_rnd (own_zv a) j (FP.ddiv a b) := by
  have hU := own_U_pos
  have hz : 0 < own_zv b := by rw [hb.2]; exact Int.mul_pos hj hU
  have h := own_ddiv_rnd ha hb.1 (by omega)
  rw [if_pos hz, Int.natAbs_of_nonneg (Int.le_of_lt hz), hb.2] at h
  exact own_rnd_scale hU h
theorem own_rep_is (k : Int) (h : k.natAbs < 2 ^ 53) : ∃ V, own_is k V := own_rep k 1074 h (by decide)
end OwnFloat6
section OwnFloat7
open Jvm.FP Jvm.FP.Core
/-- one value, not nought: one pattern of bits -/
theorem own_bits {a b : UInt64} (ha : Core.DFin a) (hb : Core.DFin b) (e : own_zv a = own_zv b) (h : own_zv b ≠ 0) : a = b := by
  refine Core.eq_bits (fun q => h ?_) ?_
  · have := Core.DZero.zval q; exact this
  · show FP.dcmp a b = _
    rw [own_dcmp ha.ne_nan hb.ne_nan, e, Core.compare_self_int]
theorem own_at_bits {c : Int} {j : Nat} {a b : UInt64} (ha : own_at c j a) (hb : own_at c j b) (h : c ≠ 0) : a = b := by
  refine own_bits ha.1 hb.1 (by rw [ha.2, hb.2]) ?_
  rw [hb.2]; intro q
  rcases Int.mul_eq_zero.mp q with q | q
  · exact h q
  · have := Nat.two_pow_pos j; omega
theorem own_fin64 {a : UInt64} (h : Core.DFin a) : Fin64 a := fin64_core.mpr h
end OwnFloat7
section OwnFloat8
open Jvm.FP Jvm.FP.Core
/-- r's magnitude is A / B (units of 2^-1074), rounded to nearest -/
def own_rr (A B : Nat) (r : UInt64) : Prop := 0 < B ∧ ∃ s, Core.val64 r = Core.roundRatio Core.b64 s A B Core.b64.qmin
theorem own_mag {a : UInt64} : (own_zv a).natAbs = Core.zmag Core.b64 (Core.val64 a) := by unfold own_zv Core.zval; rw [Core.natAbs_signed]
theorem own_in0 (A : Nat) : Core.inUnits A Core.b64.qmin Core.b64.qmin = A := by unfold Core.inUnits; rw [own_pow0, Nat.mul_one]
theorem own_rr_mono {A1 B1 A2 B2 : Nat} {r1 r2 : UInt64} (h1 : own_rr A1 B1 r1) (h2 : own_rr A2 B2 r2) (f1 : Core.DFin r1) (f2 : Core.DFin r2) (h : A1 * B2 ≤ A2 * B1) : (own_zv r1).natAbs ≤ (own_zv r2).natAbs := by
  obtain ⟨b1, s1, e1⟩ := h1
  obtain ⟨b2, s2, e2⟩ := h2
  have n1 := f1.ne_nan; have n2 := f2.ne_nan
  rw [own_mag, own_mag]
  by_cases q1 : A1 ≤ Core.zmag Core.b64 (Core.val64 r2) * B1
  · have := Core.zmag_roundRatio_le Core.good_b64 (s := s1) (A := A1) (B := B1) (e := Core.b64.qmin) (e0 := Core.b64.qmin) b1 (Core.val64_fits r2) n2 (Int.le_refl _) (Int.le_refl _) (by rw [own_in0, own_pow0, Nat.mul_one]; exact q1)
    rw [← e1] at this; exact this
  · by_cases q2 : Core.zmag Core.b64 (Core.val64 r1) * B2 ≤ A2
    · have := Core.zmag_roundRatio_ge Core.good_b64 (s := s2) (A := A2) (B := B2) (e := Core.b64.qmin) (e0 := Core.b64.qmin) b2 (Core.val64_fits r1) (Int.le_refl _) (Int.le_refl _) (by rw [own_in0, own_pow0, Nat.mul_one]; exact q2)
      rw [← e2] at this; exact this
    · apply Nat.le_of_not_lt; intro hlt
      obtain ⟨t1, c1, x1, v1⟩ := f1
      obtain ⟨t2, c2, x2, v2⟩ := f2
      have g1 := Core.val64_fits r1; rw [v1] at g1
      have g2 := Core.val64_fits r2; rw [v2] at g2
      have d1 := Core.roundRatio_nearest Core.good_b64 (e0 := Core.b64.qmin) b1 (e1.symm.trans v1) g2.1 g2.2.1 (Int.le_refl _) (Int.le_refl _)
      have d2 := Core.roundRatio_nearest Core.good_b64 (e0 := Core.b64.qmin) b2 (e2.symm.trans v2) g1.1 g1.2.1 (Int.le_refl _) (Int.le_refl _)
      unfold Core.distance at d1 d2
      rw [own_in0] at d1 d2
      have z1 : Core.zmag Core.b64 (Core.val64 r1) = Core.inUnits c1 x1 Core.b64.qmin := by rw [v1]; rfl
      have z2 : Core.zmag Core.b64 (Core.val64 r2) = Core.inUnits c2 x2 Core.b64.qmin := by rw [v2]; rfl
      rw [← z1, ← z2] at d1 d2
      generalize hz1 : Core.zmag Core.b64 (Core.val64 r1) = Z1 at *
      generalize hz2 : Core.zmag Core.b64 (Core.val64 r2) = Z2 at *
      rw [← Int.natCast_mul, ← Int.natCast_mul] at d1 d2
      -- A1 < Z1 * B1 as well
      have k1 : A1 * B2 < Z1 * B1 * B2 := by
        have : A2 * B1 < Z1 * B2 * B1 := Nat.mul_lt_mul_of_pos_right (by omega) b1
        have e : Z1 * B2 * B1 = Z1 * B1 * B2 := by simp only [Nat.mul_assoc, Nat.mul_comm, Nat.mul_left_comm]
        omega
      have k2 : A1 < Z1 * B1 := Nat.lt_of_mul_lt_mul_right k1
      have k3 : Z2 * B1 * B2 < A2 * B1 := by
        have : Z2 * B1 * B2 < A1 * B2 := Nat.mul_lt_mul_of_pos_right (by omega) b2
        omega
      have k4 : Z2 * B2 < A2 := by
        have e : Z2 * B1 * B2 = Z2 * B2 * B1 := by simp only [Nat.mul_assoc, Nat.mul_comm, Nat.mul_left_comm]
        rw [e] at k3; exact Nat.lt_of_mul_lt_mul_right k3
      have m1 : (Z1 + Z2) * B1 ≤ 2 * A1 := by rw [Nat.add_mul]; omega
      have m2 : 2 * A2 ≤ (Z1 + Z2) * B2 := by rw [Nat.add_mul]; omega
      have m3 := Nat.mul_le_mul_right B2 m1
      have m4 := Nat.mul_le_mul_right B1 m2
      have e3 : (Z1 + Z2) * B1 * B2 = (Z1 + Z2) * B2 * B1 := by simp only [Nat.mul_assoc, Nat.mul_comm, Nat.mul_left_comm]
      have e4 : 2 * A1 * B2 = 2 * (A1 * B2) := Nat.mul_assoc _ _ _
      have e5 : 2 * A2 * B1 = 2 * (A2 * B1) := Nat.mul_assoc _ _ _
      have e6 : A1 * B2 = A2 * B1 := by omega
      have cg := Core.roundRatio_congr (f := Core.b64) (s := s1) (e := Core.b64.qmin) (e' := Core.b64.qmin) b1 b2 (by rw [own_pow0, Nat.mul_one, Nat.mul_one]; exact e6)
      have w1 := Core.zmag_roundRatio_le Core.good_b64 (s := s1) (A := A2) (B := B2) (e := Core.b64.qmin) (e0 := Core.b64.qmin) (V := Core.val64 r2) b2 (Core.val64_fits r2) n2 (Int.le_refl _) (Int.le_refl _)
      -- one sign or the other: the magnitudes are one
      have sg : Core.zmag Core.b64 (Core.roundRatio Core.b64 s1 A2 B2 Core.b64.qmin) = Core.zmag Core.b64 (Core.roundRatio Core.b64 s2 A2 B2 Core.b64.qmin) := by
        by_cases q : s1 = s2
        · rw [q]
        · have e : s2 = !s1 := by cases s1 <;> cases s2 <;> simp at q ⊢
          have ng := Core.negate_roundRatio Core.b64 s1 A2 B2 Core.b64.qmin
          rw [e, ← ng]
          cases Core.roundRatio Core.b64 s1 A2 B2 Core.b64.qmin <;> rfl
      rw [← cg, ← e1, ← e2, hz1, hz2] at sg
      omega
theorem own_rr_of_round {x : UInt64} {sg : Bool} {n : Nat} {e : Int} {A B : Nat} (hx : Core.val64 x = Core.round Core.b64 (.fin sg n e)) (hB : 0 < B) (h : n * B * 2 ^ (e - Core.b64.qmin).toNat = A * 1 * 2 ^ (Core.b64.qmin - e).toNat) : own_rr A B x :=
  ⟨hB, sg, hx.trans (Core.roundRatio_congr (f := Core.b64) (s := sg) (by decide) hB h)⟩
theorem own_rr_dmul {a b : UInt64} (ha : Core.DFin a) (hb : Core.DFin b) : own_rr ((own_zv a).natAbs * (own_zv b).natAbs) Core.one64 (FP.dmul a b) := by
  obtain ⟨s, c, q, ea⟩ := ha
  obtain ⟨t, d, r, eb⟩ := hb
  have fa := Core.val64_fits a; have fb := Core.val64_fits b
  rw [ea] at fa; rw [eb] at fb
  have h1 := fa.2.1; have h2 := fb.2.1
  have hq := Core.qmin_neg Core.good_b64
  have hv : Core.val64 (FP.dmul a b) = Core.round Core.b64 (.fin (s != t) (c * d) (q + r)) := by
    show Core.val64 (Core.dmul a b) = _
    rw [Core.val64_dmul, ea, eb]; rfl
  refine own_rr_of_round hv Core.one64_pos ?_
  rw [own_mag, own_mag, ea, eb]
  show _ = Core.inUnits c q Core.b64.qmin * Core.inUnits d r Core.b64.qmin * 1 * _
  unfold Core.inUnits
  rw [← Core.pow_qmin64, Nat.mul_one]
  have l : c * d * 2 ^ (-Core.b64.qmin).toNat * 2 ^ (q + r - Core.b64.qmin).toNat = c * d * 2 ^ ((-Core.b64.qmin).toNat + (q + r - Core.b64.qmin).toNat) := by rw [Nat.pow_add, Nat.mul_assoc (c * d)]
  have m : c * 2 ^ (q - Core.b64.qmin).toNat * (d * 2 ^ (r - Core.b64.qmin).toNat) * 2 ^ (Core.b64.qmin - (q + r)).toNat = c * d * 2 ^ ((q - Core.b64.qmin).toNat + (r - Core.b64.qmin).toNat + (Core.b64.qmin - (q + r)).toNat) := by
    rw [Nat.pow_add, Nat.pow_add]; simp only [Nat.mul_assoc, Nat.mul_comm, Nat.mul_left_comm]
  rw [l, m]; congr 2; omega
theorem own_rr_dadd {a b : UInt64} (ha : Core.DFin a) (hb : Core.DFin b) : own_rr (own_zv a + own_zv b).natAbs 1 (FP.dadd a b) := by
  obtain ⟨s, c, q, ea⟩ := ha
  obtain ⟨t, d, r, eb⟩ := hb
  have fa := Core.val64_fits a; have fb := Core.val64_fits b
  rw [ea] at fa; rw [eb] at fb
  obtain ⟨sg, n, e, h1, h2, h3⟩ := Core.sum_units fa fb
  have hv : Core.val64 (FP.dadd a b) = Core.round Core.b64 (.fin sg n e) := by
    show Core.val64 (Core.dadd a b) = _
    rw [Core.val64_dadd, ea, eb, h1]
  refine own_rr_of_round hv (by decide) ?_
  have z : (own_zv a + own_zv b).natAbs = Core.inUnits n e Core.b64.qmin := by
    unfold own_zv; rw [ea, eb, ← h3, Core.natAbs_signed]
  rw [z, Nat.mul_one, Nat.mul_one]
  unfold Core.inUnits
  rw [show (Core.b64.qmin - e).toNat = 0 by omega, Nat.pow_zero, Nat.mul_one]
theorem own_rr_ddiv {a b : UInt64} (ha : Core.DFin a) (hb : Core.DFin b) (hz : own_zv b ≠ 0) : own_rr ((own_zv a).natAbs * Core.one64) (own_zv b).natAbs (FP.ddiv a b) := by
  obtain ⟨s, c, q, ea⟩ := ha
  obtain ⟨t, d, r, eb⟩ := hb
  have fa := Core.val64_fits a; have fb := Core.val64_fits b
  rw [ea] at fa; rw [eb] at fb
  have h1 := fa.2.1; have h2 := fb.2.1
  have hq := Core.qmin_neg Core.good_b64
  have zb : own_zv b = Core.signed t (Core.inUnits d r Core.b64.qmin) := by unfold own_zv; rw [eb]; rfl
  have d0 : d ≠ 0 := fun h => hz (by rw [zb, h]; unfold Core.inUnits; rw [Nat.zero_mul]; exact Core.signed_zero t)
  have hv : Core.val64 (FP.ddiv a b) = Core.roundRatio Core.b64 (s != t) c d (q - r) := by
    show Core.val64 (Core.ddiv a b) = _
    rw [Core.val64_ddiv, ea, eb]; show (if d = 0 then _ else _) = _; rw [if_neg d0]
  refine ⟨by omega, s != t, hv.trans (Core.roundRatio_congr (Nat.pos_of_ne_zero d0) (by omega) ?_)⟩
  rw [own_mag, own_mag, ea, eb]
  show c * Core.inUnits d r Core.b64.qmin * _ = Core.inUnits c q Core.b64.qmin * Core.one64 * d * _
  unfold Core.inUnits
  rw [← Core.pow_qmin64]
  have l : c * (d * 2 ^ (r - Core.b64.qmin).toNat) * 2 ^ (q - r - Core.b64.qmin).toNat = c * d * 2 ^ ((r - Core.b64.qmin).toNat + (q - r - Core.b64.qmin).toNat) := by
    rw [Nat.pow_add]; simp only [Nat.mul_assoc, Nat.mul_comm, Nat.mul_left_comm]
  have m : c * 2 ^ (q - Core.b64.qmin).toNat * 2 ^ (-Core.b64.qmin).toNat * d * 2 ^ (Core.b64.qmin - (q - r)).toNat = c * d * 2 ^ ((q - Core.b64.qmin).toNat + (-Core.b64.qmin).toNat + (Core.b64.qmin - (q - r)).toNat) := by
    rw [Nat.pow_add, Nat.pow_add]; simp only [Nat.mul_assoc, Nat.mul_comm, Nat.mul_left_comm]
  rw [l, m]; congr 2; omega
end OwnFloat8
section OwnFloat9
open Jvm.FP Jvm.FP.Core
/-- a quotient by a power of two -/
theorem own_at_divp {c : Int} {j i : Nat} {a b : UInt64} (ha : own_at c (j + i) a) (hb : own_at 1 (1074 + i) b) (h : c.natAbs < 2 ^ 53) (hj : j ≤ 2045) : own_at c j (FP.ddiv a b) := by
  refine own_at_div ha hb (by decide) j ?_ h hj
  rw [Int.mul_one, show j + (1074 + i) = j + i + 1074 by omega]
theorem own_8d : own_at 1 (1074 + 3) (4620693217682128896 : UInt64) := ⟨by rw [Core.fin_bits]; decide, by decide +kernel⟩
theorem own_2d : own_at 1 (1074 + 1) (4611686018427387904 : UInt64) := ⟨by rw [Core.fin_bits]; decide, by decide +kernel⟩
end OwnFloat9
section OwnFloat10
open Jvm.FP Jvm.FP.Core
/-- a lies from 0 to X -/
def own_bd (X : Int) (a : UInt64) : Prop := Core.DFin a ∧ 0 ≤ own_zv a ∧ own_zv a ≤ X * own_U
theorem own_bd_of {N D X : Int} {r : UInt64} (h : own_rnd N D r) (hX : 0 ≤ X) (hX2 : X.natAbs < 2 ^ 53) (hD : 0 ≤ D) (h0 : 0 ≤ N) (h1 : N ≤ X * own_U * D) : own_bd X r := by
  obtain ⟨V, f, z⟩ := own_rep_is X hX2
  have a := h.2.1 0 own_is_0.1.ne_nan (by rw [own_is_0.2, Int.zero_mul, Int.zero_mul]; exact h0)
  have b := h.2.2 V f.ne_nan (by rw [z]; exact h1)
  rw [own_is_0.2, Int.zero_mul] at a
  have p : 0 ≤ X * own_U := Int.mul_nonneg hX (Int.le_of_lt own_U_pos)
  refine ⟨own_fin_of h.1 f (by rw [z] at b ⊢; omega), a, by rw [z] at b; exact b⟩
theorem own_bd_mul {X Y : Int} {a b : UInt64} (ha : own_bd X a) (hb : own_bd Y b) (hX : 0 ≤ X) (hY : 0 ≤ Y) (h : (X * Y).natAbs < 2 ^ 53) : own_bd (X * Y) (FP.dmul a b) := by
  have hU := own_U_pos
  refine own_bd_of (own_dmul_rnd ha.1 hb.1) (Int.mul_nonneg hX hY) h (Int.le_of_lt hU) (Int.mul_nonneg ha.2.1 hb.2.1) ?_
  have e : X * Y * own_U * own_U = (X * own_U) * (Y * own_U) := by simp only [Int.mul_assoc, Int.mul_comm, Int.mul_left_comm]
  rw [e]
  exact Int.mul_le_mul ha.2.2 hb.2.2 hb.2.1 (Int.mul_nonneg hX (Int.le_of_lt hU))
theorem own_bd_add {X Y : Int} {a b : UInt64} (ha : own_bd X a) (hb : own_bd Y b) (hX : 0 ≤ X) (hY : 0 ≤ Y) (h : (X + Y).natAbs < 2 ^ 53) : own_bd (X + Y) (FP.dadd a b) := by
  have h1 := ha.2.1; have h2 := hb.2.1; have h3 := ha.2.2; have h4 := hb.2.2
  refine own_bd_of (own_dadd_rnd ha.1 hb.1) (by omega) h (by decide) (by omega) ?_
  rw [Int.mul_one, Int.add_mul]; omega
theorem own_bd_div {X m : Int} {a b : UInt64} (ha : own_bd X a) (hb : Core.DFin b) (hp : 0 < own_zv b) (hm : own_U ≤ m * own_zv b) (hX : 0 ≤ X) (h0 : 0 ≤ m) (h : (X * m).natAbs < 2 ^ 53) : own_bd (X * m) (FP.ddiv a b) := by
  have hU := own_U_pos
  have hr := own_ddiv_rnd ha.1 hb (by omega)
  rw [if_pos hp, Int.natAbs_of_nonneg (Int.le_of_lt hp)] at hr
  refine own_bd_of hr (Int.mul_nonneg hX h0) h (Int.le_of_lt hp) (Int.mul_nonneg ha.2.1 (Int.le_of_lt hU)) ?_
  have e : X * m * own_U * own_zv b = (X * own_U) * (m * own_zv b) := by simp only [Int.mul_assoc, Int.mul_comm, Int.mul_left_comm]
  rw [e]
  exact Int.mul_le_mul ha.2.2 hm (Int.le_of_lt hU) (Int.mul_nonneg hX (Int.le_of_lt hU))
theorem own_bd_is {i : Int} {a : UInt64} (h : own_is i a) (h0 : 0 ≤ i) {X : Int} (hX : i ≤ X) : own_bd X a := ⟨h.1, by rw [h.2]; exact Int.mul_nonneg h0 (Int.le_of_lt own_U_pos), by rw [h.2]; exact Int.mul_le_mul_of_nonneg_right hX (Int.le_of_lt own_U_pos)⟩
end OwnFloat10

theorem own_pn0 : plainName "com/example/arborway/arborway/sim/WalkOverPinLaw" = true := by first | (simp [plainName, overriddenIn]; done) | decide +kernel
theorem own_d2_0 : decode method_3_code 0 = .ok (.iload_n 0, 1) := by decide +kernel
theorem own_d2_1 : decode method_3_code 1 = .ok (.iconst 4, 1) := by decide +kernel
theorem own_d2_2 : decode method_3_code 2 = .ok (.iload_n 1, 1) := by decide +kernel
theorem own_d2_3 : decode method_3_code 3 = .ok (.iadd, 1) := by decide +kernel
theorem own_d2_4 : decode method_3_code 4 = .ok (.ishr, 1) := by decide +kernel
theorem own_d2_5 : decode method_3_code 5 = .ok (.iconst 1, 1) := by decide +kernel
theorem own_d2_6 : decode method_3_code 6 = .ok (.iand, 1) := by decide +kernel
theorem own_d2_7 : decode method_3_code 7 = .ok (.ifCond .eq 7, 3) := by decide +kernel
theorem own_d2_10 : decode method_3_code 10 = .ok (.iconst 1, 1) := by decide +kernel
theorem own_d2_11 : decode method_3_code 11 = .ok (.goto 4, 3) := by decide +kernel
theorem own_d2_14 : decode method_3_code 14 = .ok (.iconst 0, 1) := by decide +kernel
theorem own_d2_15 : decode method_3_code 15 = .ok (.ireturn, 1) := by decide +kernel
def own_j2_0 (p2_0 : Int32) (p2_1 : Int32) : Int32 := if ((p2_0 >>> (((4 : Int32) + p2_1) &&& 31)) &&& (1 : Int32)) = (0 : Int32) then (0 : Int32) else (1 : Int32)
def own_r2_1 (p2_0 : Int32) (p2_1 : Int32) : Int32 := (nar .boolean (own_j2_0 p2_0 p2_1))
theorem own_ef2 (m : MethodId) (p2_0 : Int32) (p2_1 : Int32) : entryFrame m #[(.int p2_0), (.int p2_1)] 2 = mkF m 0 #[.val (.int p2_0), .val (.int p2_1)] [] := by first | (simp [entryFrame, mkF, argsToLocals, Value.category]; done) | rfl
def own_Q2 (Z : State) (p2_0 : Int32) (p2_1 : Int32) (h0 : Heap) (n0 : Nat) (v : Option Value) (h : Heap) (L : List Loc) : Prop := v = some (.int (own_r2_1 p2_0 p2_1)) ∧ Fr n0 L ∧ h = h0
set_option maxRecDepth 65536 in
set_option maxHeartbeats 40000000 in
theorem own_rm2 (l : Launch) (Z : State) (a0 : Array Value) (hw : ∀ d ∈ tables_1, d.before a0 Z = true) (ws : List Jvm.Cond) (p2_0 : Int32) (p2_1 : Int32) (h0 : Heap) (n0 : Nat) (Z0 : n0 ≤ h0.size) :
    MetFree l (⟨"com/example/arborway/arborway/sim/WalkOverPinLaw", "unreached", "(II)Z"⟩ : MethodName) (head1 (Jvm.Cond.code (⟨"com/example/arborway/arborway/sim/WalkOverPinLaw", "unreached", "(II)Z"⟩ : MethodName) method_3_code 2 (some .boolean) :: ws) ({ frames := 0, cells := 0, slots := 0, locals := 0 } : Room)) (fun a U => a = #[(.int p2_0), (.int p2_1)] ∧ Z.Warmed39 U.vm ∧ U.heap = h0) (fun _ _ _ _ _ => True) (fun _ U o U' => ∃ v L, o = .returned v ∧ own_Q2 Z p2_0 p2_1 h0 n0 v U'.heap L ∧ FrameEnd U o U' L ({ frames := 0, cells := 0, slots := 0, locals := 0 } : Room).cells ({ frames := 0, cells := 0, slots := 0, locals := 0 } : Room).slots) := by
  refine MetFree.of_bodySF (plainFor_of_name own_pn0) hisR ?_
  intro p e s m args below meth c s₁ Bd hml0 hP hK
  obtain ⟨rfl, hZ, hh⟩ := hP
  have hx := Bd.exec
  have hby := Bd.bytes
  have hml : c.maxLocals = 2 := hml0
  have hown : s.vm.findClass "com/example/arborway/arborway/sim/WalkOverPinLaw" = some m.cls := findClass_of_methodNamed Bd.named
  have hnm := (name_of_methodNamed Bd.named Bd.method).1
  have X0 : Stand p l e ({ frames := 0, cells := 0, slots := 0, locals := 0 } : Room) s m #[(.int p2_0), (.int p2_1)] below meth c s₁ [] 0 0 := Stand.of_body Bd
  have e0 : s₁.heap = h0 := by rw [← hh, Bd.state]; rfl
  have N0 := Fr.nil n0
  have Zr : h0.size ≤ h0.size := Nat.le_refl _
  have pre0 : ∀ t, Steps p.tables e below (s₁.setTop (mkF m 0 #[.val (.int p2_0), .val (.int p2_1)] [])) t → Steps p.tables e below (s₁.setTop (entryFrame m #[(.int p2_0), (.int p2_1)] 2)) t := fun t k => castTop (own_ef2 m p2_0 p2_1) k
  obtain ⟨Tj2_1, lj2_1, Xj2_1, Nj2_1, ej2_1, stj2_1⟩ : ∃ (T' : State) (l' : List Loc), Stand p l e ({ frames := 0, cells := 0, slots := 0, locals := 0 } : Room) s m #[(.int p2_0), (.int p2_1)] below meth c T' l' 0 0 ∧ Fr n0 l' ∧ T'.heap = h0 ∧ ∀ target, Steps p.tables e below (T'.setTop (mkF m 15 #[.val (.int p2_0), .val (.int p2_1)] [(.int (own_j2_0 p2_0 p2_1))])) target → Steps p.tables e below (s₁.setTop (mkF m 7 #[.val (.int p2_0), .val (.int p2_1)] [(.int ((p2_0 >>> (((4 : Int32) + p2_1) &&& 31)) &&& (1 : Int32)))])) target := by
    by_cases hj2_1 : ((p2_0 >>> (((4 : Int32) + p2_1) &&& 31)) &&& (1 : Int32)) = (0 : Int32)
    · refine ⟨_, _, X0, N0, e0, fun target kt => ?_⟩
      rw [(show (own_j2_0 p2_0 p2_1) = (0 : Int32) from if_pos hj2_1)] at kt
      show Steps p.tables e below (s₁.setTop (mkF m 7 #[.val (.int p2_0), .val (.int p2_1)] [(.int ((p2_0 >>> (((4 : Int32) + p2_1) &&& 31)) &&& (1 : Int32)))])) _
      refine XS.ifYes X0.here hx rfl (pc0 := 7) (pc' := 14) rfl (hb hby own_d2_7) rfl (XT.i0_eq_t hj2_1) (by decide) (by decide) ?_
      show Steps p.tables e below (s₁.setTop (mkF m 14 #[.val (.int p2_0), .val (.int p2_1)] [])) _
      refine XS.iconst X0.here hx rfl (hb hby own_d2_14) ?_
      exact kt
    · refine ⟨_, _, X0, N0, e0, fun target kt => ?_⟩
      rw [(show (own_j2_0 p2_0 p2_1) = (1 : Int32) from if_neg hj2_1)] at kt
      show Steps p.tables e below (s₁.setTop (mkF m 7 #[.val (.int p2_0), .val (.int p2_1)] [(.int ((p2_0 >>> (((4 : Int32) + p2_1) &&& 31)) &&& (1 : Int32)))])) _
      refine XS.ifNo X0.here hx rfl (hb hby own_d2_7) rfl (XT.i0_eq_f hj2_1) ?_
      show Steps p.tables e below (s₁.setTop (mkF m 10 #[.val (.int p2_0), .val (.int p2_1)] [])) _
      refine XS.iconst X0.here hx rfl (hb hby own_d2_10) ?_
      show Steps p.tables e below (s₁.setTop (mkF m 11 #[.val (.int p2_0), .val (.int p2_1)] [(.int (1 : Int32))])) _
      refine XS.goto X0.here hx rfl (pc0 := 11) (pc' := 15) rfl (hb hby own_d2_11) (by decide) (by decide) ?_
      exact kt
  obtain ⟨fs, hr, hrun, hended, hW, hsame⟩ := Xj2_1.leave (v := some (.int (nar .boolean (own_j2_0 p2_0 p2_1)))) (fun h => by rw [Bd.returns] at h; cases h)
  refine ⟨_, _, pre0 _ (?_), hrun, hended, _, _, rfl, ?_, ⟨_, rfl⟩, hW, hsame.mono (by decide) (by decide)⟩
  · show Steps p.tables e below (s₁.setTop (mkF m 0 #[.val (.int p2_0), .val (.int p2_1)] [])) _
    refine XS.iloadN X0.here hx rfl (hb hby own_d2_0) rfl ?_
    show Steps p.tables e below (s₁.setTop (mkF m 1 #[.val (.int p2_0), .val (.int p2_1)] [(.int p2_0)])) _
    refine XS.iconst X0.here hx rfl (hb hby own_d2_1) ?_
    show Steps p.tables e below (s₁.setTop (mkF m 2 #[.val (.int p2_0), .val (.int p2_1)] [(.int (4 : Int32)), (.int p2_0)])) _
    refine XS.iloadN X0.here hx rfl (hb hby own_d2_2) rfl ?_
    show Steps p.tables e below (s₁.setTop (mkF m 3 #[.val (.int p2_0), .val (.int p2_1)] [(.int p2_1), (.int (4 : Int32)), (.int p2_0)])) _
    refine XS.iadd X0.here hx rfl (hb hby own_d2_3) rfl ?_
    show Steps p.tables e below (s₁.setTop (mkF m 4 #[.val (.int p2_0), .val (.int p2_1)] [(.int ((4 : Int32) + p2_1)), (.int p2_0)])) _
    refine XT.ishr X0.here hx rfl (hb hby own_d2_4) rfl ?_
    show Steps p.tables e below (s₁.setTop (mkF m 5 #[.val (.int p2_0), .val (.int p2_1)] [(.int (p2_0 >>> (((4 : Int32) + p2_1) &&& 31)))])) _
    refine XS.iconst X0.here hx rfl (hb hby own_d2_5) ?_
    show Steps p.tables e below (s₁.setTop (mkF m 6 #[.val (.int p2_0), .val (.int p2_1)] [(.int (1 : Int32)), (.int (p2_0 >>> (((4 : Int32) + p2_1) &&& 31)))])) _
    refine XS.iand X0.here hx rfl (hb hby own_d2_6) rfl ?_
    show Steps p.tables e below (s₁.setTop (mkF m 7 #[.val (.int p2_0), .val (.int p2_1)] [(.int ((p2_0 >>> (((4 : Int32) + p2_1) &&& 31)) &&& (1 : Int32)))])) _
    refine stj2_1 _ ?_
    show Steps p.tables e below (Tj2_1.setTop (mkF m 15 #[.val (.int p2_0), .val (.int p2_1)] [(.int (own_j2_0 p2_0 p2_1))])) _
    exact retN Xj2_1 hx (t := .boolean) Bd.returns (by simp) (hb hby own_d2_15) hr
  · show own_Q2 Z p2_0 p2_1 h0 n0 _ Tj2_1.heap _
    rw [ej2_1]
    exact ⟨rfl, Nj2_1, rfl⟩
theorem own_pd0 : parseMethodDescriptor "(II)Z" = some ⟨[.int, .int], some .boolean⟩ := by decide +kernel
theorem own_d1_0 : decode method_4_code 0 = .ok (.iload_n 0, 1) := by decide +kernel
theorem own_d1_1 : decode method_4_code 1 = .ok (.iload_n 1, 1) := by decide +kernel
theorem own_d1_2 : decode method_4_code 2 = .ok (.invokestatic 30, 3) := by decide +kernel
theorem own_d1_5 : decode method_4_code 5 = .ok (.ifCond .eq 7, 3) := by decide +kernel
theorem own_d1_8 : decode method_4_code 8 = .ok (.ldc2_w 36, 3) := by decide +kernel
theorem own_d1_11 : decode method_4_code 11 = .ok (.dreturn, 1) := by decide +kernel
theorem own_d1_12 : decode method_4_code 12 = .ok (.iload_n 2, 1) := by decide +kernel
theorem own_d1_13 : decode method_4_code 13 = .ok (.i2d, 1) := by decide +kernel
theorem own_d1_14 : decode method_4_code 14 = .ok (.dreturn, 1) := by decide +kernel
def own_r1_0 (p1_0 : Int32) (p1_1 : Int32) (p1_2 : Int32) : UInt64 := (if (own_r2_1 p1_0 p1_1) = (0 : Int32) then (FP.i2d p1_2) else (9218868437227405312 : UInt64))
theorem own_ef1 (m : MethodId) (p1_0 : Int32) (p1_1 : Int32) (p1_2 : Int32) : entryFrame m #[(.int p1_0), (.int p1_1), (.int p1_2)] 3 = mkF m 0 #[.val (.int p1_0), .val (.int p1_1), .val (.int p1_2)] [] := by first | (simp [entryFrame, mkF, argsToLocals, Value.category]; done) | rfl
def own_Q1 (Z : State) (p1_0 : Int32) (p1_1 : Int32) (p1_2 : Int32) (h0 : Heap) (n0 : Nat) (v : Option Value) (h : Heap) (L : List Loc) : Prop := v = some (.double (own_r1_0 p1_0 p1_1 p1_2)) ∧ Fr n0 L ∧ h = h0
set_option maxRecDepth 65536 in
set_option maxHeartbeats 40000000 in
theorem own_rm1 (l : Launch) (Z : State) (a0 : Array Value) (hw : ∀ d ∈ tables_1, d.before a0 Z = true) (ws : List Jvm.Cond) (p1_0 : Int32) (p1_1 : Int32) (p1_2 : Int32) (h0 : Heap) (n0 : Nat) (Z0 : n0 ≤ h0.size) :
    MetFree l (⟨"com/example/arborway/arborway/sim/WalkOverPinLaw", "delayOf", "(III)D"⟩ : MethodName) (head1 (Jvm.Cond.code (⟨"com/example/arborway/arborway/sim/WalkOverPinLaw", "delayOf", "(III)D"⟩ : MethodName) method_4_code 3 (some .double) :: ws) ({ frames := 1, cells := 0, slots := 0, locals := 13 } : Room)) (fun a U => a = #[(.int p1_0), (.int p1_1), (.int p1_2)] ∧ Z.Warmed39 U.vm ∧ U.heap = h0) (fun _ _ _ _ _ => True) (fun _ U o U' => ∃ v L, o = .returned v ∧ own_Q1 Z p1_0 p1_1 p1_2 h0 n0 v U'.heap L ∧ FrameEnd U o U' L ({ frames := 1, cells := 0, slots := 0, locals := 13 } : Room).cells ({ frames := 1, cells := 0, slots := 0, locals := 13 } : Room).slots) := by
  refine MetFree.of_bodySF (plainFor_of_name own_pn0) hisR ?_
  intro p e s m args below meth c s₁ Bd hml0 hP hK
  obtain ⟨rfl, hZ, hh⟩ := hP
  have hx := Bd.exec
  have hby := Bd.bytes
  have hml : c.maxLocals = 3 := hml0
  have hown : s.vm.findClass "com/example/arborway/arborway/sim/WalkOverPinLaw" = some m.cls := findClass_of_methodNamed Bd.named
  have hnm := (name_of_methodNamed Bd.named Bd.method).1
  have X0 : Stand p l e ({ frames := 1, cells := 0, slots := 0, locals := 13 } : Room) s m #[(.int p1_0), (.int p1_1), (.int p1_2)] below meth c s₁ [] 0 0 := Stand.of_body Bd
  have e0 : s₁.heap = h0 := by rw [← hh, Bd.state]; rfl
  have N0 := Fr.nil n0
  have Zr : h0.size ≤ h0.size := Nat.le_refl _
  have pre0 : ∀ t, Steps p.tables e below (s₁.setTop (mkF m 0 #[.val (.int p1_0), .val (.int p1_1), .val (.int p1_2)] [])) t → Steps p.tables e below (s₁.setTop (entryFrame m #[(.int p1_0), (.int p1_1), (.int p1_2)] 3)) t := fun t k => castTop (own_ef1 m p1_0 p1_1 p1_2) k
  obtain ⟨_, _, ⟨Tk1_1, Lk1_1, kk1_1, nk1_1⟩, -, Xk1_1, ⟨Lck1_1, hQk1_1, lk1_1, yk1_1, zk1_1⟩, stk1_1⟩ := Jvm.LawKit.callS X0 hx (y := (⟨"com/example/arborway/arborway/sim/WalkOverPinLaw", "unreached", "(II)Z"⟩ : MethodName)) hown (mvT hZ (hw _ (List.mem_of_getElem? (i := 7) rfl))) (mvT hZ (hw _ (List.mem_of_getElem? (i := 8) rfl))) (mvT hZ (hw _ (List.mem_of_getElem? (i := 5) rfl))) (mvT hZ (hw _ (List.mem_of_getElem? (i := 9) rfl))) (by decide) (backOf (W := 0) (own_rm2 l Z a0 hw [] p1_0 p1_1 h0 n0 Z0) hZ (hw _ (List.mem_of_getElem? (i := 9) rfl)) (hw _ (List.mem_of_getElem? (i := 5) rfl)) (by decide) (by decide)) (g := (mkF m 2 #[.val (.int p1_0), .val (.int p1_1), .val (.int p1_2)] [(.int p1_1), (.int p1_0)])) rfl (by rw [hml]; rfl) (argsL := [(.int p1_0), (.int p1_1)]) (rest := []) (lenOf own_pd0 rfl) rfl (by show 2 * 0 + _ ≤ _; exact Nat.le_of_eq rfl) (hb hby own_d1_2) (fun _ _ => ⟨rfl, e0, (by decide : 0 + 0 ≤ _), (by decide : 0 + 0 ≤ _)⟩)
  dsimp only [Pt.U, Pt.locs, Pt.cells, Pt.slots] at Xk1_1 lk1_1 yk1_1 zk1_1 stk1_1 hQk1_1
  replace lk1_1 := lk1_1.symm; replace yk1_1 := yk1_1.symm; replace zk1_1 := zk1_1.symm; subst lk1_1 yk1_1 zk1_1
  obtain ⟨rfl, Nk1_1q, ek1_1⟩ := hQk1_1
  have Nk1_1 := Fr.app N0 Nk1_1q
  have Ks1_2 : ∀ t, Steps p.tables e below (Tk1_1.setTop (mkF m 5 #[.val (.int p1_0), .val (.int p1_1), .val (.int p1_2)] [(.int (own_r2_1 p1_0 p1_1))])) t → Steps p.tables e below (s₁.setTop (mkF m 0 #[.val (.int p1_0), .val (.int p1_1), .val (.int p1_2)] [])) t := by
    intro t kt
    show Steps p.tables e below (s₁.setTop (mkF m 0 #[.val (.int p1_0), .val (.int p1_1), .val (.int p1_2)] [])) _
    refine XS.iloadN X0.here hx rfl (hb hby own_d1_0) rfl ?_
    show Steps p.tables e below (s₁.setTop (mkF m 1 #[.val (.int p1_0), .val (.int p1_1), .val (.int p1_2)] [(.int p1_0)])) _
    refine XS.iloadN X0.here hx rfl (hb hby own_d1_1) rfl ?_
    show Steps p.tables e below (s₁.setTop (mkF m 2 #[.val (.int p1_0), .val (.int p1_1), .val (.int p1_2)] [(.int p1_1), (.int p1_0)])) _
    refine stk1_1 _ ?_
    exact kt
  by_cases hs1_2 : (own_r2_1 p1_0 p1_1) = (0 : Int32)
  · have K1_3 : ∀ t, Steps p.tables e below (Tk1_1.setTop (mkF m 12 #[.val (.int p1_0), .val (.int p1_1), .val (.int p1_2)] [])) t → Steps p.tables e below (Tk1_1.setTop (mkF m 5 #[.val (.int p1_0), .val (.int p1_1), .val (.int p1_2)] [(.int (own_r2_1 p1_0 p1_1))])) t := by
      intro t kt
      show Steps p.tables e below (Tk1_1.setTop (mkF m 5 #[.val (.int p1_0), .val (.int p1_1), .val (.int p1_2)] [(.int (own_r2_1 p1_0 p1_1))])) _
      refine XS.ifYes Xk1_1.here hx rfl (pc0 := 5) (pc' := 12) rfl (hb hby own_d1_5) rfl (XT.i0_eq_t hs1_2) (by decide) (by decide) ?_
      exact kt
    obtain ⟨fs, hr, hrun, hended, hW, hsame⟩ := Xk1_1.leave (v := some (.double (FP.i2d p1_2))) (fun h => by rw [Bd.returns] at h; cases h)
    refine ⟨_, _, pre0 _ (Ks1_2 _ (K1_3 _ (?_))), hrun, hended, _, _, rfl, ?_, ⟨_, rfl⟩, hW, hsame.mono (by decide) (by decide)⟩
    · show Steps p.tables e below (Tk1_1.setTop (mkF m 12 #[.val (.int p1_0), .val (.int p1_1), .val (.int p1_2)] [])) _
      refine XS.iloadN Xk1_1.here hx rfl (hb hby own_d1_12) rfl ?_
      show Steps p.tables e below (Tk1_1.setTop (mkF m 13 #[.val (.int p1_0), .val (.int p1_1), .val (.int p1_2)] [(.int p1_2)])) _
      refine XS.i2dS Xk1_1.here hx rfl (hb hby own_d1_13) rfl rfl ?_
      show Steps p.tables e below (Tk1_1.setTop (mkF m 14 #[.val (.int p1_0), .val (.int p1_1), .val (.int p1_2)] [(.double (FP.i2d p1_2))])) _
      exact own_retD Xk1_1 hx Bd.returns (hb hby own_d1_14) hr
    · show own_Q1 Z p1_0 p1_1 p1_2 h0 n0 _ Tk1_1.heap _
      rw [ek1_1]
      exact ⟨(congrArg (fun z => some (Value.double z)) (show (FP.i2d p1_2) = (own_r1_0 p1_0 p1_1 p1_2) from (if_pos hs1_2).symm)), Nk1_1, rfl⟩
  · have K1_4 : ∀ t, Steps p.tables e below (Tk1_1.setTop (mkF m 8 #[.val (.int p1_0), .val (.int p1_1), .val (.int p1_2)] [])) t → Steps p.tables e below (Tk1_1.setTop (mkF m 5 #[.val (.int p1_0), .val (.int p1_1), .val (.int p1_2)] [(.int (own_r2_1 p1_0 p1_1))])) t := by
      intro t kt
      show Steps p.tables e below (Tk1_1.setTop (mkF m 5 #[.val (.int p1_0), .val (.int p1_1), .val (.int p1_2)] [(.int (own_r2_1 p1_0 p1_1))])) _
      refine XS.ifNo Xk1_1.here hx rfl (hb hby own_d1_5) rfl (XT.i0_eq_f hs1_2) ?_
      exact kt
    obtain ⟨fs, hr, hrun, hended, hW, hsame⟩ := Xk1_1.leave (v := some (.double (9218868437227405312 : UInt64))) (fun h => by rw [Bd.returns] at h; cases h)
    refine ⟨_, _, pre0 _ (Ks1_2 _ (K1_4 _ (?_))), hrun, hended, _, _, rfl, ?_, ⟨_, rfl⟩, hW, hsame.mono (by decide) (by decide)⟩
    · show Steps p.tables e below (Tk1_1.setTop (mkF m 8 #[.val (.int p1_0), .val (.int p1_1), .val (.int p1_2)] [])) _
      refine Xk1_1.ldc2DoubleC hx hown (mvT hZ (hw _ (List.mem_of_getElem? (i := 43) rfl))) (g := (mkF m 8 #[.val (.int p1_0), .val (.int p1_1), .val (.int p1_2)] [])) rfl (hb hby own_d1_8) _ ?_
      show Steps p.tables e below (Tk1_1.setTop (mkF m 11 #[.val (.int p1_0), .val (.int p1_1), .val (.int p1_2)] [(.double (9218868437227405312 : UInt64))])) _
      exact own_retD Xk1_1 hx Bd.returns (hb hby own_d1_11) hr
    · show own_Q1 Z p1_0 p1_1 p1_2 h0 n0 _ Tk1_1.heap _
      rw [ek1_1]
      exact ⟨(congrArg (fun z => some (Value.double z)) (show (9218868437227405312 : UInt64) = (own_r1_0 p1_0 p1_1 p1_2) from (if_neg hs1_2).symm)), Nk1_1, rfl⟩
theorem own_d3_0 : decode method_5_code 0 = .ok (.iload_n 0, 1) := by decide +kernel
theorem own_d3_1 : decode method_5_code 1 = .ok (.iload_n 1, 1) := by decide +kernel
theorem own_d3_2 : decode method_5_code 2 = .ok (.invokestatic 30, 3) := by decide +kernel
theorem own_d3_5 : decode method_5_code 5 = .ok (.ifCond .eq 7, 3) := by decide +kernel
theorem own_d3_8 : decode method_5_code 8 = .ok (.iconst (-1), 1) := by decide +kernel
theorem own_d3_9 : decode method_5_code 9 = .ok (.goto 4, 3) := by decide +kernel
theorem own_d3_12 : decode method_5_code 12 = .ok (.iconst 1, 1) := by decide +kernel
theorem own_d3_13 : decode method_5_code 13 = .ok (.ireturn, 1) := by decide +kernel
def own_j3_0 (p3_0 : Int32) (p3_1 : Int32) : Int32 := if (own_r2_1 p3_0 p3_1) = (0 : Int32) then (1 : Int32) else (-1 : Int32)
theorem own_ef3 (m : MethodId) (p3_0 : Int32) (p3_1 : Int32) : entryFrame m #[(.int p3_0), (.int p3_1)] 2 = mkF m 0 #[.val (.int p3_0), .val (.int p3_1)] [] := by first | (simp [entryFrame, mkF, argsToLocals, Value.category]; done) | rfl
def own_Q3 (Z : State) (p3_0 : Int32) (p3_1 : Int32) (h0 : Heap) (n0 : Nat) (v : Option Value) (h : Heap) (L : List Loc) : Prop := v = some (.int (own_j3_0 p3_0 p3_1)) ∧ Fr n0 L ∧ h = h0
set_option maxRecDepth 65536 in
set_option maxHeartbeats 40000000 in
theorem own_rm3 (l : Launch) (Z : State) (a0 : Array Value) (hw : ∀ d ∈ tables_1, d.before a0 Z = true) (ws : List Jvm.Cond) (p3_0 : Int32) (p3_1 : Int32) (h0 : Heap) (n0 : Nat) (Z0 : n0 ≤ h0.size) :
    MetFree l (⟨"com/example/arborway/arborway/sim/WalkOverPinLaw", "depthOf", "(II)I"⟩ : MethodName) (head1 (Jvm.Cond.code (⟨"com/example/arborway/arborway/sim/WalkOverPinLaw", "depthOf", "(II)I"⟩ : MethodName) method_5_code 2 (some .int) :: ws) ({ frames := 1, cells := 0, slots := 0, locals := 13 } : Room)) (fun a U => a = #[(.int p3_0), (.int p3_1)] ∧ Z.Warmed39 U.vm ∧ U.heap = h0) (fun _ _ _ _ _ => True) (fun _ U o U' => ∃ v L, o = .returned v ∧ own_Q3 Z p3_0 p3_1 h0 n0 v U'.heap L ∧ FrameEnd U o U' L ({ frames := 1, cells := 0, slots := 0, locals := 13 } : Room).cells ({ frames := 1, cells := 0, slots := 0, locals := 13 } : Room).slots) := by
  refine MetFree.of_bodySF (plainFor_of_name own_pn0) hisR ?_
  intro p e s m args below meth c s₁ Bd hml0 hP hK
  obtain ⟨rfl, hZ, hh⟩ := hP
  have hx := Bd.exec
  have hby := Bd.bytes
  have hml : c.maxLocals = 2 := hml0
  have hown : s.vm.findClass "com/example/arborway/arborway/sim/WalkOverPinLaw" = some m.cls := findClass_of_methodNamed Bd.named
  have hnm := (name_of_methodNamed Bd.named Bd.method).1
  have X0 : Stand p l e ({ frames := 1, cells := 0, slots := 0, locals := 13 } : Room) s m #[(.int p3_0), (.int p3_1)] below meth c s₁ [] 0 0 := Stand.of_body Bd
  have e0 : s₁.heap = h0 := by rw [← hh, Bd.state]; rfl
  have N0 := Fr.nil n0
  have Zr : h0.size ≤ h0.size := Nat.le_refl _
  have pre0 : ∀ t, Steps p.tables e below (s₁.setTop (mkF m 0 #[.val (.int p3_0), .val (.int p3_1)] [])) t → Steps p.tables e below (s₁.setTop (entryFrame m #[(.int p3_0), (.int p3_1)] 2)) t := fun t k => castTop (own_ef3 m p3_0 p3_1) k
  obtain ⟨_, _, ⟨Tk3_1, Lk3_1, kk3_1, nk3_1⟩, -, Xk3_1, ⟨Lck3_1, hQk3_1, lk3_1, yk3_1, zk3_1⟩, stk3_1⟩ := Jvm.LawKit.callS X0 hx (y := (⟨"com/example/arborway/arborway/sim/WalkOverPinLaw", "unreached", "(II)Z"⟩ : MethodName)) hown (mvT hZ (hw _ (List.mem_of_getElem? (i := 7) rfl))) (mvT hZ (hw _ (List.mem_of_getElem? (i := 8) rfl))) (mvT hZ (hw _ (List.mem_of_getElem? (i := 5) rfl))) (mvT hZ (hw _ (List.mem_of_getElem? (i := 9) rfl))) (by decide) (backOf (W := 0) (own_rm2 l Z a0 hw [] p3_0 p3_1 h0 n0 Z0) hZ (hw _ (List.mem_of_getElem? (i := 9) rfl)) (hw _ (List.mem_of_getElem? (i := 5) rfl)) (by decide) (by decide)) (g := (mkF m 2 #[.val (.int p3_0), .val (.int p3_1)] [(.int p3_1), (.int p3_0)])) rfl (by rw [hml]; rfl) (argsL := [(.int p3_0), (.int p3_1)]) (rest := []) (lenOf own_pd0 rfl) rfl (by show 2 * 0 + _ ≤ _; exact Nat.le_of_eq rfl) (hb hby own_d3_2) (fun _ _ => ⟨rfl, e0, (by decide : 0 + 0 ≤ _), (by decide : 0 + 0 ≤ _)⟩)
  dsimp only [Pt.U, Pt.locs, Pt.cells, Pt.slots] at Xk3_1 lk3_1 yk3_1 zk3_1 stk3_1 hQk3_1
  replace lk3_1 := lk3_1.symm; replace yk3_1 := yk3_1.symm; replace zk3_1 := zk3_1.symm; subst lk3_1 yk3_1 zk3_1
  obtain ⟨rfl, Nk3_1q, ek3_1⟩ := hQk3_1
  have Nk3_1 := Fr.app N0 Nk3_1q
  obtain ⟨Tj3_2, lj3_2, Xj3_2, Nj3_2, ej3_2, stj3_2⟩ : ∃ (T' : State) (l' : List Loc), Stand p l e ({ frames := 1, cells := 0, slots := 0, locals := 13 } : Room) s m #[(.int p3_0), (.int p3_1)] below meth c T' l' 0 0 ∧ Fr n0 l' ∧ T'.heap = h0 ∧ ∀ target, Steps p.tables e below (T'.setTop (mkF m 13 #[.val (.int p3_0), .val (.int p3_1)] [(.int (own_j3_0 p3_0 p3_1))])) target → Steps p.tables e below (Tk3_1.setTop (mkF m 5 #[.val (.int p3_0), .val (.int p3_1)] [(.int (own_r2_1 p3_0 p3_1))])) target := by
    by_cases hj3_2 : (own_r2_1 p3_0 p3_1) = (0 : Int32)
    · refine ⟨_, _, Xk3_1, Nk3_1, ek3_1, fun target kt => ?_⟩
      rw [(show (own_j3_0 p3_0 p3_1) = (1 : Int32) from if_pos hj3_2)] at kt
      show Steps p.tables e below (Tk3_1.setTop (mkF m 5 #[.val (.int p3_0), .val (.int p3_1)] [(.int (own_r2_1 p3_0 p3_1))])) _
      refine XS.ifYes Xk3_1.here hx rfl (pc0 := 5) (pc' := 12) rfl (hb hby own_d3_5) rfl (XT.i0_eq_t hj3_2) (by decide) (by decide) ?_
      show Steps p.tables e below (Tk3_1.setTop (mkF m 12 #[.val (.int p3_0), .val (.int p3_1)] [])) _
      refine XS.iconst Xk3_1.here hx rfl (hb hby own_d3_12) ?_
      exact kt
    · refine ⟨_, _, Xk3_1, Nk3_1, ek3_1, fun target kt => ?_⟩
      rw [(show (own_j3_0 p3_0 p3_1) = (-1 : Int32) from if_neg hj3_2)] at kt
      show Steps p.tables e below (Tk3_1.setTop (mkF m 5 #[.val (.int p3_0), .val (.int p3_1)] [(.int (own_r2_1 p3_0 p3_1))])) _
      refine XS.ifNo Xk3_1.here hx rfl (hb hby own_d3_5) rfl (XT.i0_eq_f hj3_2) ?_
      show Steps p.tables e below (Tk3_1.setTop (mkF m 8 #[.val (.int p3_0), .val (.int p3_1)] [])) _
      refine XS.iconst Xk3_1.here hx rfl (hb hby own_d3_8) ?_
      show Steps p.tables e below (Tk3_1.setTop (mkF m 9 #[.val (.int p3_0), .val (.int p3_1)] [(.int (-1 : Int32))])) _
      refine XS.goto Xk3_1.here hx rfl (pc0 := 9) (pc' := 13) rfl (hb hby own_d3_9) (by decide) (by decide) ?_
      exact kt
  obtain ⟨fs, hr, hrun, hended, hW, hsame⟩ := Xj3_2.leave (v := some (.int (own_j3_0 p3_0 p3_1))) (fun h => by rw [Bd.returns] at h; cases h)
  refine ⟨_, _, pre0 _ (?_), hrun, hended, _, _, rfl, ?_, ⟨_, rfl⟩, hW, hsame.mono (by decide) (by decide)⟩
  · show Steps p.tables e below (s₁.setTop (mkF m 0 #[.val (.int p3_0), .val (.int p3_1)] [])) _
    refine XS.iloadN X0.here hx rfl (hb hby own_d3_0) rfl ?_
    show Steps p.tables e below (s₁.setTop (mkF m 1 #[.val (.int p3_0), .val (.int p3_1)] [(.int p3_0)])) _
    refine XS.iloadN X0.here hx rfl (hb hby own_d3_1) rfl ?_
    show Steps p.tables e below (s₁.setTop (mkF m 2 #[.val (.int p3_0), .val (.int p3_1)] [(.int p3_1), (.int p3_0)])) _
    refine stk3_1 _ ?_
    show Steps p.tables e below (Tk3_1.setTop (mkF m 5 #[.val (.int p3_0), .val (.int p3_1)] [(.int (own_r2_1 p3_0 p3_1))])) _
    refine stj3_2 _ ?_
    show Steps p.tables e below (Tj3_2.setTop (mkF m 13 #[.val (.int p3_0), .val (.int p3_1)] [(.int (own_j3_0 p3_0 p3_1))])) _
    exact retI Xj3_2 hx Bd.returns (hb hby own_d3_13) hr
  · show own_Q3 Z p3_0 p3_1 h0 n0 _ Tj3_2.heap _
    rw [ej3_2]
    exact ⟨rfl, Nj3_2, rfl⟩
theorem own_pn1 : plainName "java/lang/Record" = true := by first | (simp [plainName, overriddenIn]; done) | decide +kernel
theorem own_d5_0 : decode jdk_30_method_1_code 0 = .ok (.aload_n 0, 1) := by decide +kernel
theorem own_d5_1 : decode jdk_30_method_1_code 1 = .ok (.invokespecial 1, 3) := by decide +kernel
theorem own_d5_4 : decode jdk_30_method_1_code 4 = .ok (.return_, 1) := by decide +kernel
theorem own_ef5 (m : MethodId) (a5_0 : Addr) : entryFrame m #[(.ref a5_0)] 1 = mkF m 0 #[.val (.ref a5_0)] [] := by first | (simp [entryFrame, mkF, argsToLocals, Value.category]; done) | rfl
def own_Q5 (Z : State) (a5_0 : Addr) (h0 : Heap) (n0 : Nat) (v : Option Value) (h : Heap) (L : List Loc) : Prop := v = none ∧ Fr n0 L ∧ h = h0
set_option maxRecDepth 65536 in
set_option maxHeartbeats 40000000 in
theorem own_rm5 (l : Launch) (Z : State) (a0 : Array Value) (hw : ∀ d ∈ tables_1, d.before a0 Z = true) (ws : List Jvm.Cond) (a5_0 : Addr) (h0 : Heap) (n0 : Nat) (Z0 : n0 ≤ h0.size) :
    MetFree l (⟨"java/lang/Record", "<init>", "()V"⟩ : MethodName) (head1 (Jvm.Cond.code (⟨"java/lang/Record", "<init>", "()V"⟩ : MethodName) jdk_30_method_1_code 1 none :: ws) ({ frames := 1, cells := 0, slots := 0, locals := 12 } : Room)) (fun a U => a = #[(.ref a5_0)] ∧ Z.Warmed39 U.vm ∧ U.heap = h0) (fun _ _ _ _ _ => True) (fun _ U o U' => ∃ v L, o = .returned v ∧ own_Q5 Z a5_0 h0 n0 v U'.heap L ∧ FrameEnd U o U' L ({ frames := 1, cells := 0, slots := 0, locals := 12 } : Room).cells ({ frames := 1, cells := 0, slots := 0, locals := 12 } : Room).slots) := by
  refine MetFree.of_bodySF (plainFor_of_name own_pn1) hisR ?_
  intro p e s m args below meth c s₁ Bd hml0 hP hK
  obtain ⟨rfl, hZ, hh⟩ := hP
  have hx := Bd.exec
  have hby := Bd.bytes
  have hml : c.maxLocals = 1 := hml0
  have hown : s.vm.findClass "java/lang/Record" = some m.cls := findClass_of_methodNamed Bd.named
  have hnm := (name_of_methodNamed Bd.named Bd.method).1
  have X0 : Stand p l e ({ frames := 1, cells := 0, slots := 0, locals := 12 } : Room) s m #[(.ref a5_0)] below meth c s₁ [] 0 0 := Stand.of_body Bd
  have e0 : s₁.heap = h0 := by rw [← hh, Bd.state]; rfl
  have N0 := Fr.nil n0
  have Zr : h0.size ≤ h0.size := Nat.le_refl _
  have pre0 : ∀ t, Steps p.tables e below (s₁.setTop (mkF m 0 #[.val (.ref a5_0)] [])) t → Steps p.tables e below (s₁.setTop (entryFrame m #[(.ref a5_0)] 1)) t := fun t k => castTop (own_ef5 m a5_0) k
  obtain ⟨Tn5_1, Xn5_1, en5_1, stn5_1⟩ := initO X0 hx hZ hown (hw _ (List.mem_of_getElem? (i := 24) rfl)) (hw _ (List.mem_of_getElem? (i := 25) rfl)) (hw _ (List.mem_of_getElem? (i := 26) rfl)) e0 (g := (mkF m 1 #[.val (.ref a5_0)] [(.ref a5_0)])) rfl (by rw [hml]; rfl) rfl (hb hby own_d5_1) (by decide) (W := 0) (by show 2 * 0 + _ ≤ _; exact Nat.le_of_eq rfl) (by decide)
  obtain ⟨fs, hr, hrun, hended, hW, hsame⟩ := Xn5_1.leave (v := none) (fun _ => rfl)
  refine ⟨_, _, pre0 _ (?_), hrun, hended, _, _, rfl, ?_, ⟨_, rfl⟩, hW, hsame.mono (by decide) (by decide)⟩
  · show Steps p.tables e below (s₁.setTop (mkF m 0 #[.val (.ref a5_0)] [])) _
    refine XS.aloadN X0.here hx rfl (hb hby own_d5_0) rfl rfl ?_
    show Steps p.tables e below (s₁.setTop (mkF m 1 #[.val (.ref a5_0)] [(.ref a5_0)])) _
    refine stn5_1 _ ?_
    show Steps p.tables e below (Tn5_1.setTop (mkF m 4 #[.val (.ref a5_0)] [])) _
    exact Xn5_1.returnOut hx Bd.returns (hb hby own_d5_4) hr
  · show own_Q5 Z a5_0 h0 n0 _ Tn5_1.heap _
    rw [en5_1]
    exact ⟨rfl, N0, rfl⟩
theorem own_pn2 : plainName "com/example/arborway/arborway/sim/RunTally$Walk" = true := by first | (simp [plainName, overriddenIn]; done) | decide +kernel
theorem own_pd1 : parseMethodDescriptor "()V" = some ⟨[], none⟩ := by decide +kernel
theorem own_d4_0 : decode prog_76_method_1_code 0 = .ok (.aload_n 0, 1) := by decide +kernel
theorem own_d4_1 : decode prog_76_method_1_code 1 = .ok (.invokespecial 1, 3) := by decide +kernel
theorem own_d4_4 : decode prog_76_method_1_code 4 = .ok (.aload_n 0, 1) := by decide +kernel
theorem own_d4_5 : decode prog_76_method_1_code 5 = .ok (.aload_n 1, 1) := by decide +kernel
theorem own_d4_6 : decode prog_76_method_1_code 6 = .ok (.putfield 7, 3) := by decide +kernel
theorem own_d4_9 : decode prog_76_method_1_code 9 = .ok (.aload_n 0, 1) := by decide +kernel
theorem own_d4_10 : decode prog_76_method_1_code 10 = .ok (.aload_n 2, 1) := by decide +kernel
theorem own_d4_11 : decode prog_76_method_1_code 11 = .ok (.putfield 13, 3) := by decide +kernel
theorem own_d4_14 : decode prog_76_method_1_code 14 = .ok (.aload_n 0, 1) := by decide +kernel
theorem own_d4_15 : decode prog_76_method_1_code 15 = .ok (.aload_n 3, 1) := by decide +kernel
theorem own_d4_16 : decode prog_76_method_1_code 16 = .ok (.putfield 17, 3) := by decide +kernel
theorem own_d4_19 : decode prog_76_method_1_code 19 = .ok (.aload_n 0, 1) := by decide +kernel
theorem own_d4_20 : decode prog_76_method_1_code 20 = .ok (.dload 4, 2) := by decide +kernel
theorem own_d4_22 : decode prog_76_method_1_code 22 = .ok (.putfield 21, 3) := by decide +kernel
theorem own_d4_25 : decode prog_76_method_1_code 25 = .ok (.return_, 1) := by decide +kernel
theorem own_ef4 (m : MethodId) (a4_0 : Addr) (a4_1 : Addr) (a4_2 : Addr) (a4_3 : Addr) (d4_4 : UInt64) : entryFrame m #[(.ref a4_0), (.ref a4_1), (.ref a4_2), (.ref a4_3), (.double d4_4)] 6 = mkF m 0 #[.val (.ref a4_0), .val (.ref a4_1), .val (.ref a4_2), .val (.ref a4_3), .val (.double d4_4), .second] [] := by first | (simp [entryFrame, mkF, argsToLocals, Value.category]; done) | rfl
def own_Q4 (Z : State) (a4_0 : Addr) (a4_1 : Addr) (a4_2 : Addr) (a4_3 : Addr) (d4_4 : UInt64) (w_depth_a4_0 : Value) (w_rootDelayMs_a4_0 : Value) (w_running_a4_0 : Value) (w_costMs_a4_0 : Value) (h0 : Heap) (n0 : Nat) (v : Option Value) (h : Heap) (L : List Loc) : Prop := v = none ∧ Fr n0 L ∧ Keep h0 h [a4_0] ∧ Exa Z h a4_0 "com/example/arborway/arborway/sim/RunTally$Walk" ∧ Fld Z h a4_0 "com/example/arborway/arborway/sim/RunTally$Walk" "depth" "[I" (.ref a4_1) ∧ Fld Z h a4_0 "com/example/arborway/arborway/sim/RunTally$Walk" "rootDelayMs" "[D" (.ref a4_2) ∧ Fld Z h a4_0 "com/example/arborway/arborway/sim/RunTally$Walk" "running" "[Z" (.ref a4_3) ∧ Fld Z h a4_0 "com/example/arborway/arborway/sim/RunTally$Walk" "costMs" "D" (.double d4_4)
set_option maxRecDepth 65536 in
set_option maxHeartbeats 40000000 in
theorem own_rm4 (l : Launch) (Z : State) (a0 : Array Value) (hw : ∀ d ∈ tables_1, d.before a0 Z = true) (ws : List Jvm.Cond) (a4_0 : Addr) (a4_1 : Addr) (a4_2 : Addr) (a4_3 : Addr) (d4_4 : UInt64) (w_depth_a4_0 : Value) (w_rootDelayMs_a4_0 : Value) (w_running_a4_0 : Value) (w_costMs_a4_0 : Value) (h0 : Heap) (n0 : Nat) (Z0 : n0 ≤ h0.size) (E_a4_0 : Exa Z h0 a4_0 "com/example/arborway/arborway/sim/RunTally$Walk") (F_depth_a4_0 : Fld Z h0 a4_0 "com/example/arborway/arborway/sim/RunTally$Walk" "depth" "[I" w_depth_a4_0) (g_a4_0 : n0 ≤ a4_0) (F_rootDelayMs_a4_0 : Fld Z h0 a4_0 "com/example/arborway/arborway/sim/RunTally$Walk" "rootDelayMs" "[D" w_rootDelayMs_a4_0) (F_running_a4_0 : Fld Z h0 a4_0 "com/example/arborway/arborway/sim/RunTally$Walk" "running" "[Z" w_running_a4_0) (F_costMs_a4_0 : Fld Z h0 a4_0 "com/example/arborway/arborway/sim/RunTally$Walk" "costMs" "D" w_costMs_a4_0) :
    MetFree l (⟨"com/example/arborway/arborway/sim/RunTally$Walk", "<init>", "([I[D[ZD)V"⟩ : MethodName) (head1 (Jvm.Cond.code (⟨"com/example/arborway/arborway/sim/RunTally$Walk", "<init>", "([I[D[ZD)V"⟩ : MethodName) prog_76_method_1_code 6 none :: ws) ({ frames := 2, cells := 0, slots := 0, locals := 24 } : Room)) (fun a U => a = #[(.ref a4_0), (.ref a4_1), (.ref a4_2), (.ref a4_3), (.double d4_4)] ∧ Z.Warmed39 U.vm ∧ U.heap = h0) (fun _ _ _ _ _ => True) (fun _ U o U' => ∃ v L, o = .returned v ∧ own_Q4 Z a4_0 a4_1 a4_2 a4_3 d4_4 w_depth_a4_0 w_rootDelayMs_a4_0 w_running_a4_0 w_costMs_a4_0 h0 n0 v U'.heap L ∧ FrameEnd U o U' L ({ frames := 2, cells := 0, slots := 0, locals := 24 } : Room).cells ({ frames := 2, cells := 0, slots := 0, locals := 24 } : Room).slots) := by
  refine MetFree.of_bodySF (plainFor_of_name own_pn2) hisR ?_
  intro p e s m args below meth c s₁ Bd hml0 hP hK
  obtain ⟨rfl, hZ, hh⟩ := hP
  have hx := Bd.exec
  have hby := Bd.bytes
  have hml : c.maxLocals = 6 := hml0
  have hown : s.vm.findClass "com/example/arborway/arborway/sim/RunTally$Walk" = some m.cls := findClass_of_methodNamed Bd.named
  have hnm := (name_of_methodNamed Bd.named Bd.method).1
  have X0 : Stand p l e ({ frames := 2, cells := 0, slots := 0, locals := 24 } : Room) s m #[(.ref a4_0), (.ref a4_1), (.ref a4_2), (.ref a4_3), (.double d4_4)] below meth c s₁ [] 0 0 := Stand.of_body Bd
  have e0 : s₁.heap = h0 := by rw [← hh, Bd.state]; rfl
  have N0 := Fr.nil n0
  have Zr : h0.size ≤ h0.size := Nat.le_refl _
  have pre0 : ∀ t, Steps p.tables e below (s₁.setTop (mkF m 0 #[.val (.ref a4_0), .val (.ref a4_1), .val (.ref a4_2), .val (.ref a4_3), .val (.double d4_4), .second] [])) t → Steps p.tables e below (s₁.setTop (entryFrame m #[(.ref a4_0), (.ref a4_1), (.ref a4_2), (.ref a4_3), (.double d4_4)] 6)) t := fun t k => castTop (own_ef4 m a4_0 a4_1 a4_2 a4_3 d4_4) k
  obtain ⟨_, _, ⟨Tk4_1, Lk4_1, kk4_1, nk4_1⟩, -, Xk4_1, ⟨Lck4_1, hQk4_1, lk4_1, yk4_1, zk4_1⟩, stk4_1⟩ := X0.specialBack hx (y := (⟨"java/lang/Record", "<init>", "()V"⟩ : MethodName)) rfl hown (mvT hZ (hw _ (List.mem_of_getElem? (i := 19) rfl))) (mvT hZ (hw _ (List.mem_of_getElem? (i := 20) rfl))) (mvT hZ (hw _ (List.mem_of_getElem? (i := 23) rfl))) (by decide) (backOf (W := 0) (own_rm5 l Z a0 hw [] a4_0 h0 n0 Z0) hZ (hw _ (List.mem_of_getElem? (i := 23) rfl)) (hw _ (List.mem_of_getElem? (i := 22) rfl)) (by decide) (by decide)) (g := (mkF m 1 #[.val (.ref a4_0), .val (.ref a4_1), .val (.ref a4_2), .val (.ref a4_3), .val (.double d4_4), .second] [(.ref a4_0)])) rfl (by rw [hml]; rfl) (Steps.refl _) (a := a4_0) (argsL := []) (rest := []) (lenOf own_pd1 rfl) rfl (by show 2 * 0 + _ ≤ _; exact Nat.le_of_eq rfl) (hb hby own_d4_1) (fun _ _ => ⟨rfl, e0, (by decide : 0 + 0 ≤ _), (by decide : 0 + 0 ≤ _)⟩)
  dsimp only [Pt.U, Pt.locs, Pt.cells, Pt.slots] at Xk4_1 lk4_1 yk4_1 zk4_1 stk4_1 hQk4_1
  replace lk4_1 := lk4_1.symm; replace yk4_1 := yk4_1.symm; replace zk4_1 := zk4_1.symm; subst lk4_1 yk4_1 zk4_1
  obtain ⟨rfl, Nk4_1q, ek4_1⟩ := hQk4_1
  have Nk4_1 := Fr.app N0 Nk4_1q
  obtain ⟨Tn4_2, hn4_2, Xn4_2, en4_2, Wn4_2, stn4_2⟩ := putF Xk4_1 hx hZ hown (host := "") (Or.inl (hw _ (List.mem_of_getElem? (i := 27) rfl))) Via.refl ek4_1 F_depth_a4_0 E_a4_0 (Or.inr ⟨(hw _ (List.mem_of_getElem? (i := 28) rfl)), rfl, hnm⟩) (hw _ (List.mem_of_getElem? (i := 14) rfl)) (ty := (.array .int)) (by decide) rfl rfl (g := (mkF m 6 #[.val (.ref a4_0), .val (.ref a4_1), .val (.ref a4_2), .val (.ref a4_3), .val (.double d4_4), .second] [(.ref a4_1), (.ref a4_0)])) rfl rfl (hb hby own_d4_6)
  have Fwn4_2 : Fld Z hn4_2 a4_0 "com/example/arborway/arborway/sim/RunTally$Walk" "depth" "[I" (.ref a4_1) := F_depth_a4_0.same Wn4_2
  have sz4_3 : h0.size ≤ hn4_2.size := Nat.le_trans Zr (Nat.le_of_eq Wn4_2.size.symm)
  have Nn4_2 := Fr.snoc Xn4_2 Nk4_1 g_a4_0
  have F4_4 := (E_a4_0.wr Wn4_2)
  have F4_5 := (F_rootDelayMs_a4_0.other Wn4_2 (Or.inr (slot_ne (Or.inr (hw _ (List.mem_of_getElem? (i := 30) rfl))) (Or.inr (hw _ (List.mem_of_getElem? (i := 28) rfl))) (by decide) (t := (.array .double)) (t' := (.array .int)) (by decide) (by decide))))
  obtain ⟨Tn4_6, hn4_6, Xn4_6, en4_6, Wn4_6, stn4_6⟩ := putF Xn4_2 hx hZ hown (host := "") (Or.inl (hw _ (List.mem_of_getElem? (i := 29) rfl))) Via.refl en4_2 F4_5 F4_4 (Or.inr ⟨(hw _ (List.mem_of_getElem? (i := 30) rfl)), rfl, hnm⟩) (hw _ (List.mem_of_getElem? (i := 14) rfl)) (ty := (.array .double)) (by decide) rfl rfl (g := (mkF m 11 #[.val (.ref a4_0), .val (.ref a4_1), .val (.ref a4_2), .val (.ref a4_3), .val (.double d4_4), .second] [(.ref a4_2), (.ref a4_0)])) rfl rfl (hb hby own_d4_11)
  have Fwn4_6 : Fld Z hn4_6 a4_0 "com/example/arborway/arborway/sim/RunTally$Walk" "rootDelayMs" "[D" (.ref a4_2) := F4_5.same Wn4_6
  have sz4_7 : h0.size ≤ hn4_6.size := Nat.le_trans sz4_3 (Nat.le_of_eq Wn4_6.size.symm)
  have Nn4_6 := Fr.snoc Xn4_6 Nn4_2 g_a4_0
  have F4_8 := (F4_4.wr Wn4_6)
  have F4_9 := ((F_running_a4_0.other Wn4_2 (Or.inr (slot_ne (Or.inr (hw _ (List.mem_of_getElem? (i := 32) rfl))) (Or.inr (hw _ (List.mem_of_getElem? (i := 28) rfl))) (by decide) (t := (.array .boolean)) (t' := (.array .int)) (by decide) (by decide)))).other Wn4_6 (Or.inr (slot_ne (Or.inr (hw _ (List.mem_of_getElem? (i := 32) rfl))) (Or.inr (hw _ (List.mem_of_getElem? (i := 30) rfl))) (by decide) (t := (.array .boolean)) (t' := (.array .double)) (by decide) (by decide))))
  obtain ⟨Tn4_10, hn4_10, Xn4_10, en4_10, Wn4_10, stn4_10⟩ := putF Xn4_6 hx hZ hown (host := "") (Or.inl (hw _ (List.mem_of_getElem? (i := 31) rfl))) Via.refl en4_6 F4_9 F4_8 (Or.inr ⟨(hw _ (List.mem_of_getElem? (i := 32) rfl)), rfl, hnm⟩) (hw _ (List.mem_of_getElem? (i := 14) rfl)) (ty := (.array .boolean)) (by decide) rfl rfl (g := (mkF m 16 #[.val (.ref a4_0), .val (.ref a4_1), .val (.ref a4_2), .val (.ref a4_3), .val (.double d4_4), .second] [(.ref a4_3), (.ref a4_0)])) rfl rfl (hb hby own_d4_16)
  have Fwn4_10 : Fld Z hn4_10 a4_0 "com/example/arborway/arborway/sim/RunTally$Walk" "running" "[Z" (.ref a4_3) := F4_9.same Wn4_10
  have sz4_11 : h0.size ≤ hn4_10.size := Nat.le_trans sz4_7 (Nat.le_of_eq Wn4_10.size.symm)
  have Nn4_10 := Fr.snoc Xn4_10 Nn4_6 g_a4_0
  have F4_12 := (F4_8.wr Wn4_10)
  have F4_13 := (((F_costMs_a4_0.other Wn4_2 (Or.inr (slot_ne (Or.inr (hw _ (List.mem_of_getElem? (i := 34) rfl))) (Or.inr (hw _ (List.mem_of_getElem? (i := 28) rfl))) (by decide) (t := .double) (t' := (.array .int)) (by decide) (by decide)))).other Wn4_6 (Or.inr (slot_ne (Or.inr (hw _ (List.mem_of_getElem? (i := 34) rfl))) (Or.inr (hw _ (List.mem_of_getElem? (i := 30) rfl))) (by decide) (t := .double) (t' := (.array .double)) (by decide) (by decide)))).other Wn4_10 (Or.inr (slot_ne (Or.inr (hw _ (List.mem_of_getElem? (i := 34) rfl))) (Or.inr (hw _ (List.mem_of_getElem? (i := 32) rfl))) (by decide) (t := .double) (t' := (.array .boolean)) (by decide) (by decide))))
  obtain ⟨Tn4_14, hn4_14, Xn4_14, en4_14, Wn4_14, stn4_14⟩ := putF Xn4_10 hx hZ hown (host := "") (Or.inl (hw _ (List.mem_of_getElem? (i := 33) rfl))) Via.refl en4_10 F4_13 F4_12 (Or.inr ⟨(hw _ (List.mem_of_getElem? (i := 34) rfl)), rfl, hnm⟩) (hw _ (List.mem_of_getElem? (i := 14) rfl)) (ty := .double) (by decide) rfl rfl (g := (mkF m 22 #[.val (.ref a4_0), .val (.ref a4_1), .val (.ref a4_2), .val (.ref a4_3), .val (.double d4_4), .second] [(.double d4_4), (.ref a4_0)])) rfl rfl (hb hby own_d4_22)
  have Fwn4_14 : Fld Z hn4_14 a4_0 "com/example/arborway/arborway/sim/RunTally$Walk" "costMs" "D" (.double d4_4) := F4_13.same Wn4_14
  have sz4_15 : h0.size ≤ hn4_14.size := Nat.le_trans sz4_11 (Nat.le_of_eq Wn4_14.size.symm)
  have Nn4_14 := Fr.snoc Xn4_14 Nn4_10 g_a4_0
  obtain ⟨fs, hr, hrun, hended, hW, hsame⟩ := Xn4_14.leave (v := none) (fun _ => rfl)
  refine ⟨_, _, pre0 _ (?_), hrun, hended, _, _, rfl, ?_, ⟨_, rfl⟩, hW, hsame.mono (by decide) (by decide)⟩
  · show Steps p.tables e below (s₁.setTop (mkF m 0 #[.val (.ref a4_0), .val (.ref a4_1), .val (.ref a4_2), .val (.ref a4_3), .val (.double d4_4), .second] [])) _
    refine XS.aloadN X0.here hx rfl (hb hby own_d4_0) rfl rfl ?_
    show Steps p.tables e below (s₁.setTop (mkF m 1 #[.val (.ref a4_0), .val (.ref a4_1), .val (.ref a4_2), .val (.ref a4_3), .val (.double d4_4), .second] [(.ref a4_0)])) _
    refine stk4_1.trans ?_
    show Steps p.tables e below (Tk4_1.setTop (mkF m 4 #[.val (.ref a4_0), .val (.ref a4_1), .val (.ref a4_2), .val (.ref a4_3), .val (.double d4_4), .second] [])) _
    refine XS.aloadN Xk4_1.here hx rfl (hb hby own_d4_4) rfl rfl ?_
    show Steps p.tables e below (Tk4_1.setTop (mkF m 5 #[.val (.ref a4_0), .val (.ref a4_1), .val (.ref a4_2), .val (.ref a4_3), .val (.double d4_4), .second] [(.ref a4_0)])) _
    refine XS.aloadN Xk4_1.here hx rfl (hb hby own_d4_5) rfl rfl ?_
    show Steps p.tables e below (Tk4_1.setTop (mkF m 6 #[.val (.ref a4_0), .val (.ref a4_1), .val (.ref a4_2), .val (.ref a4_3), .val (.double d4_4), .second] [(.ref a4_1), (.ref a4_0)])) _
    refine stn4_2 _ ?_
    show Steps p.tables e below (Tn4_2.setTop (mkF m 9 #[.val (.ref a4_0), .val (.ref a4_1), .val (.ref a4_2), .val (.ref a4_3), .val (.double d4_4), .second] [])) _
    refine XS.aloadN Xn4_2.here hx rfl (hb hby own_d4_9) rfl rfl ?_
    show Steps p.tables e below (Tn4_2.setTop (mkF m 10 #[.val (.ref a4_0), .val (.ref a4_1), .val (.ref a4_2), .val (.ref a4_3), .val (.double d4_4), .second] [(.ref a4_0)])) _
    refine XS.aloadN Xn4_2.here hx rfl (hb hby own_d4_10) rfl rfl ?_
    show Steps p.tables e below (Tn4_2.setTop (mkF m 11 #[.val (.ref a4_0), .val (.ref a4_1), .val (.ref a4_2), .val (.ref a4_3), .val (.double d4_4), .second] [(.ref a4_2), (.ref a4_0)])) _
    refine stn4_6 _ ?_
    show Steps p.tables e below (Tn4_6.setTop (mkF m 14 #[.val (.ref a4_0), .val (.ref a4_1), .val (.ref a4_2), .val (.ref a4_3), .val (.double d4_4), .second] [])) _
    refine XS.aloadN Xn4_6.here hx rfl (hb hby own_d4_14) rfl rfl ?_
    show Steps p.tables e below (Tn4_6.setTop (mkF m 15 #[.val (.ref a4_0), .val (.ref a4_1), .val (.ref a4_2), .val (.ref a4_3), .val (.double d4_4), .second] [(.ref a4_0)])) _
    refine XS.aloadN Xn4_6.here hx rfl (hb hby own_d4_15) rfl rfl ?_
    show Steps p.tables e below (Tn4_6.setTop (mkF m 16 #[.val (.ref a4_0), .val (.ref a4_1), .val (.ref a4_2), .val (.ref a4_3), .val (.double d4_4), .second] [(.ref a4_3), (.ref a4_0)])) _
    refine stn4_10 _ ?_
    show Steps p.tables e below (Tn4_10.setTop (mkF m 19 #[.val (.ref a4_0), .val (.ref a4_1), .val (.ref a4_2), .val (.ref a4_3), .val (.double d4_4), .second] [])) _
    refine XS.aloadN Xn4_10.here hx rfl (hb hby own_d4_19) rfl rfl ?_
    show Steps p.tables e below (Tn4_10.setTop (mkF m 20 #[.val (.ref a4_0), .val (.ref a4_1), .val (.ref a4_2), .val (.ref a4_3), .val (.double d4_4), .second] [(.ref a4_0)])) _
    refine XS.dload Xn4_10.here hx rfl (hb hby own_d4_20) rfl ?_
    show Steps p.tables e below (Tn4_10.setTop (mkF m 22 #[.val (.ref a4_0), .val (.ref a4_1), .val (.ref a4_2), .val (.ref a4_3), .val (.double d4_4), .second] [(.double d4_4), (.ref a4_0)])) _
    refine stn4_14 _ ?_
    show Steps p.tables e below (Tn4_14.setTop (mkF m 25 #[.val (.ref a4_0), .val (.ref a4_1), .val (.ref a4_2), .val (.ref a4_3), .val (.double d4_4), .second] [])) _
    exact Xn4_14.returnOut hx Bd.returns (hb hby own_d4_25) hr
  · show own_Q4 Z a4_0 a4_1 a4_2 a4_3 d4_4 w_depth_a4_0 w_rootDelayMs_a4_0 w_running_a4_0 w_costMs_a4_0 h0 n0 _ Tn4_14.heap _
    rw [en4_14]
    exact ⟨rfl, Nn4_14, (((((Keep.refl h0 [a4_0]).wr Wn4_2 (Or.inl (List.mem_of_getElem? (i := 0) rfl))).wr Wn4_6 (Or.inl (List.mem_of_getElem? (i := 0) rfl))).wr Wn4_10 (Or.inl (List.mem_of_getElem? (i := 0) rfl))).wr Wn4_14 (Or.inl (List.mem_of_getElem? (i := 0) rfl))), (F4_12.wr Wn4_14), (((Fwn4_2.other Wn4_6 (Or.inr (slot_ne (Or.inr (hw _ (List.mem_of_getElem? (i := 28) rfl))) (Or.inr (hw _ (List.mem_of_getElem? (i := 30) rfl))) (by decide) (t := (.array .int)) (t' := (.array .double)) (by decide) (by decide)))).other Wn4_10 (Or.inr (slot_ne (Or.inr (hw _ (List.mem_of_getElem? (i := 28) rfl))) (Or.inr (hw _ (List.mem_of_getElem? (i := 32) rfl))) (by decide) (t := (.array .int)) (t' := (.array .boolean)) (by decide) (by decide)))).other Wn4_14 (Or.inr (slot_ne (Or.inr (hw _ (List.mem_of_getElem? (i := 28) rfl))) (Or.inr (hw _ (List.mem_of_getElem? (i := 34) rfl))) (by decide) (t := (.array .int)) (t' := .double) (by decide) (by decide)))), ((Fwn4_6.other Wn4_10 (Or.inr (slot_ne (Or.inr (hw _ (List.mem_of_getElem? (i := 30) rfl))) (Or.inr (hw _ (List.mem_of_getElem? (i := 32) rfl))) (by decide) (t := (.array .double)) (t' := (.array .boolean)) (by decide) (by decide)))).other Wn4_14 (Or.inr (slot_ne (Or.inr (hw _ (List.mem_of_getElem? (i := 30) rfl))) (Or.inr (hw _ (List.mem_of_getElem? (i := 34) rfl))) (by decide) (t := (.array .double)) (t' := .double) (by decide) (by decide)))), (Fwn4_10.other Wn4_14 (Or.inr (slot_ne (Or.inr (hw _ (List.mem_of_getElem? (i := 32) rfl))) (Or.inr (hw _ (List.mem_of_getElem? (i := 34) rfl))) (by decide) (t := (.array .boolean)) (t' := .double) (by decide) (by decide)))), Fwn4_14⟩
theorem own_d8_0 : decode method_6_code 0 = .ok (.iload_n 0, 1) := by decide +kernel
theorem own_d8_1 : decode method_6_code 1 = .ok (.iload_n 1, 1) := by decide +kernel
theorem own_d8_2 : decode method_6_code 2 = .ok (.ishr, 1) := by decide +kernel
theorem own_d8_3 : decode method_6_code 3 = .ok (.iconst 1, 1) := by decide +kernel
theorem own_d8_4 : decode method_6_code 4 = .ok (.iand, 1) := by decide +kernel
theorem own_d8_5 : decode method_6_code 5 = .ok (.ifCond .ne 5, 3) := by decide +kernel
theorem own_d8_8 : decode method_6_code 8 = .ok (.iconst 0, 1) := by decide +kernel
theorem own_d8_9 : decode method_6_code 9 = .ok (.ireturn, 1) := by decide +kernel
theorem own_d8_10 : decode method_6_code 10 = .ok (.iload_n 0, 1) := by decide +kernel
theorem own_d8_11 : decode method_6_code 11 = .ok (.iload_n 1, 1) := by decide +kernel
theorem own_d8_12 : decode method_6_code 12 = .ok (.invokestatic 30, 3) := by decide +kernel
theorem own_d8_15 : decode method_6_code 15 = .ok (.ifCond .eq 5, 3) := by decide +kernel
theorem own_d8_18 : decode method_6_code 18 = .ok (.iconst 1, 1) := by decide +kernel
theorem own_d8_19 : decode method_6_code 19 = .ok (.ireturn, 1) := by decide +kernel
theorem own_d8_20 : decode method_6_code 20 = .ok (.iload_n 2, 1) := by decide +kernel
theorem own_d8_21 : decode method_6_code 21 = .ok (.iload_n 3, 1) := by decide +kernel
theorem own_d8_22 : decode method_6_code 22 = .ok (.if_icmp .le 5, 3) := by decide +kernel
theorem own_d8_25 : decode method_6_code 25 = .ok (.iconst 1, 1) := by decide +kernel
theorem own_d8_26 : decode method_6_code 26 = .ok (.ireturn, 1) := by decide +kernel
theorem own_d8_27 : decode method_6_code 27 = .ok (.iconst 0, 1) := by decide +kernel
theorem own_d8_28 : decode method_6_code 28 = .ok (.ireturn, 1) := by decide +kernel
def own_r8_0 (p8_0 : Int32) (p8_1 : Int32) (p8_2 : Int32) (p8_3 : Int32) : Int32 := (if ((p8_0 >>> (p8_1 &&& 31)) &&& (1 : Int32)) = (0 : Int32) then (0 : Int32) else (if (own_r2_1 p8_0 p8_1) = (0 : Int32) then (if p8_3 < p8_2 then (1 : Int32) else (0 : Int32)) else (1 : Int32)))
theorem own_ef8 (m : MethodId) (p8_0 : Int32) (p8_1 : Int32) (p8_2 : Int32) (p8_3 : Int32) : entryFrame m #[(.int p8_0), (.int p8_1), (.int p8_2), (.int p8_3)] 4 = mkF m 0 #[.val (.int p8_0), .val (.int p8_1), .val (.int p8_2), .val (.int p8_3)] [] := by first | (simp [entryFrame, mkF, argsToLocals, Value.category]; done) | rfl
def own_Q8 (Z : State) (p8_0 : Int32) (p8_1 : Int32) (p8_2 : Int32) (p8_3 : Int32) (h0 : Heap) (n0 : Nat) (v : Option Value) (h : Heap) (L : List Loc) : Prop := v = some (.int (own_r8_0 p8_0 p8_1 p8_2 p8_3)) ∧ Fr n0 L ∧ h = h0
set_option maxRecDepth 65536 in
set_option maxHeartbeats 40000000 in
theorem own_rm8 (l : Launch) (Z : State) (a0 : Array Value) (hw : ∀ d ∈ tables_1, d.before a0 Z = true) (ws : List Jvm.Cond) (p8_0 : Int32) (p8_1 : Int32) (p8_2 : Int32) (p8_3 : Int32) (h0 : Heap) (n0 : Nat) (Z0 : n0 ≤ h0.size) :
    MetFree l (⟨"com/example/arborway/arborway/sim/WalkOverPinLaw", "expect", "(IIII)I"⟩ : MethodName) (head1 (Jvm.Cond.code (⟨"com/example/arborway/arborway/sim/WalkOverPinLaw", "expect", "(IIII)I"⟩ : MethodName) method_6_code 4 (some .int) :: ws) ({ frames := 1, cells := 0, slots := 0, locals := 13 } : Room)) (fun a U => a = #[(.int p8_0), (.int p8_1), (.int p8_2), (.int p8_3)] ∧ Z.Warmed39 U.vm ∧ U.heap = h0) (fun _ _ _ _ _ => True) (fun _ U o U' => ∃ v L, o = .returned v ∧ own_Q8 Z p8_0 p8_1 p8_2 p8_3 h0 n0 v U'.heap L ∧ FrameEnd U o U' L ({ frames := 1, cells := 0, slots := 0, locals := 13 } : Room).cells ({ frames := 1, cells := 0, slots := 0, locals := 13 } : Room).slots) := by
  refine MetFree.of_bodySF (plainFor_of_name own_pn0) hisR ?_
  intro p e s m args below meth c s₁ Bd hml0 hP hK
  obtain ⟨rfl, hZ, hh⟩ := hP
  have hx := Bd.exec
  have hby := Bd.bytes
  have hml : c.maxLocals = 4 := hml0
  have hown : s.vm.findClass "com/example/arborway/arborway/sim/WalkOverPinLaw" = some m.cls := findClass_of_methodNamed Bd.named
  have hnm := (name_of_methodNamed Bd.named Bd.method).1
  have X0 : Stand p l e ({ frames := 1, cells := 0, slots := 0, locals := 13 } : Room) s m #[(.int p8_0), (.int p8_1), (.int p8_2), (.int p8_3)] below meth c s₁ [] 0 0 := Stand.of_body Bd
  have e0 : s₁.heap = h0 := by rw [← hh, Bd.state]; rfl
  have N0 := Fr.nil n0
  have Zr : h0.size ≤ h0.size := Nat.le_refl _
  have pre0 : ∀ t, Steps p.tables e below (s₁.setTop (mkF m 0 #[.val (.int p8_0), .val (.int p8_1), .val (.int p8_2), .val (.int p8_3)] [])) t → Steps p.tables e below (s₁.setTop (entryFrame m #[(.int p8_0), (.int p8_1), (.int p8_2), (.int p8_3)] 4)) t := fun t k => castTop (own_ef8 m p8_0 p8_1 p8_2 p8_3) k
  have Ks8_1 : ∀ t, Steps p.tables e below (s₁.setTop (mkF m 5 #[.val (.int p8_0), .val (.int p8_1), .val (.int p8_2), .val (.int p8_3)] [(.int ((p8_0 >>> (p8_1 &&& 31)) &&& (1 : Int32)))])) t → Steps p.tables e below (s₁.setTop (mkF m 0 #[.val (.int p8_0), .val (.int p8_1), .val (.int p8_2), .val (.int p8_3)] [])) t := by
    intro t kt
    show Steps p.tables e below (s₁.setTop (mkF m 0 #[.val (.int p8_0), .val (.int p8_1), .val (.int p8_2), .val (.int p8_3)] [])) _
    refine XS.iloadN X0.here hx rfl (hb hby own_d8_0) rfl ?_
    show Steps p.tables e below (s₁.setTop (mkF m 1 #[.val (.int p8_0), .val (.int p8_1), .val (.int p8_2), .val (.int p8_3)] [(.int p8_0)])) _
    refine XS.iloadN X0.here hx rfl (hb hby own_d8_1) rfl ?_
    show Steps p.tables e below (s₁.setTop (mkF m 2 #[.val (.int p8_0), .val (.int p8_1), .val (.int p8_2), .val (.int p8_3)] [(.int p8_1), (.int p8_0)])) _
    refine XT.ishr X0.here hx rfl (hb hby own_d8_2) rfl ?_
    show Steps p.tables e below (s₁.setTop (mkF m 3 #[.val (.int p8_0), .val (.int p8_1), .val (.int p8_2), .val (.int p8_3)] [(.int (p8_0 >>> (p8_1 &&& 31)))])) _
    refine XS.iconst X0.here hx rfl (hb hby own_d8_3) ?_
    show Steps p.tables e below (s₁.setTop (mkF m 4 #[.val (.int p8_0), .val (.int p8_1), .val (.int p8_2), .val (.int p8_3)] [(.int (1 : Int32)), (.int (p8_0 >>> (p8_1 &&& 31)))])) _
    refine XS.iand X0.here hx rfl (hb hby own_d8_4) rfl ?_
    exact kt
  by_cases hs8_1 : ((p8_0 >>> (p8_1 &&& 31)) &&& (1 : Int32)) = (0 : Int32)
  · have K8_2 : ∀ t, Steps p.tables e below (s₁.setTop (mkF m 8 #[.val (.int p8_0), .val (.int p8_1), .val (.int p8_2), .val (.int p8_3)] [])) t → Steps p.tables e below (s₁.setTop (mkF m 5 #[.val (.int p8_0), .val (.int p8_1), .val (.int p8_2), .val (.int p8_3)] [(.int ((p8_0 >>> (p8_1 &&& 31)) &&& (1 : Int32)))])) t := by
      intro t kt
      show Steps p.tables e below (s₁.setTop (mkF m 5 #[.val (.int p8_0), .val (.int p8_1), .val (.int p8_2), .val (.int p8_3)] [(.int ((p8_0 >>> (p8_1 &&& 31)) &&& (1 : Int32)))])) _
      refine XS.ifNo X0.here hx rfl (hb hby own_d8_5) rfl (XT.i0_ne_f hs8_1) ?_
      exact kt
    obtain ⟨fs, hr, hrun, hended, hW, hsame⟩ := X0.leave (v := some (.int (0 : Int32))) (fun h => by rw [Bd.returns] at h; cases h)
    refine ⟨_, _, pre0 _ (Ks8_1 _ (K8_2 _ (?_))), hrun, hended, _, _, rfl, ?_, ⟨_, rfl⟩, hW, hsame.mono (by decide) (by decide)⟩
    · show Steps p.tables e below (s₁.setTop (mkF m 8 #[.val (.int p8_0), .val (.int p8_1), .val (.int p8_2), .val (.int p8_3)] [])) _
      refine XS.iconst X0.here hx rfl (hb hby own_d8_8) ?_
      show Steps p.tables e below (s₁.setTop (mkF m 9 #[.val (.int p8_0), .val (.int p8_1), .val (.int p8_2), .val (.int p8_3)] [(.int (0 : Int32))])) _
      exact retI X0 hx Bd.returns (hb hby own_d8_9) hr
    · show own_Q8 Z p8_0 p8_1 p8_2 p8_3 h0 n0 _ s₁.heap _
      rw [e0]
      exact ⟨(congrArg (fun z => some (Value.int z)) (show (0 : Int32) = (own_r8_0 p8_0 p8_1 p8_2 p8_3) from (if_pos hs8_1).symm)), N0, rfl⟩
  · have K8_3 : ∀ t, Steps p.tables e below (s₁.setTop (mkF m 10 #[.val (.int p8_0), .val (.int p8_1), .val (.int p8_2), .val (.int p8_3)] [])) t → Steps p.tables e below (s₁.setTop (mkF m 5 #[.val (.int p8_0), .val (.int p8_1), .val (.int p8_2), .val (.int p8_3)] [(.int ((p8_0 >>> (p8_1 &&& 31)) &&& (1 : Int32)))])) t := by
      intro t kt
      show Steps p.tables e below (s₁.setTop (mkF m 5 #[.val (.int p8_0), .val (.int p8_1), .val (.int p8_2), .val (.int p8_3)] [(.int ((p8_0 >>> (p8_1 &&& 31)) &&& (1 : Int32)))])) _
      refine XS.ifYes X0.here hx rfl (pc0 := 5) (pc' := 10) rfl (hb hby own_d8_5) rfl (XT.i0_ne_t hs8_1) (by decide) (by decide) ?_
      exact kt
    obtain ⟨_, _, ⟨Tk8_4, Lk8_4, kk8_4, nk8_4⟩, -, Xk8_4, ⟨Lck8_4, hQk8_4, lk8_4, yk8_4, zk8_4⟩, stk8_4⟩ := Jvm.LawKit.callS X0 hx (y := (⟨"com/example/arborway/arborway/sim/WalkOverPinLaw", "unreached", "(II)Z"⟩ : MethodName)) hown (mvT hZ (hw _ (List.mem_of_getElem? (i := 7) rfl))) (mvT hZ (hw _ (List.mem_of_getElem? (i := 8) rfl))) (mvT hZ (hw _ (List.mem_of_getElem? (i := 5) rfl))) (mvT hZ (hw _ (List.mem_of_getElem? (i := 9) rfl))) (by decide) (backOf (W := 0) (own_rm2 l Z a0 hw [] p8_0 p8_1 h0 n0 Z0) hZ (hw _ (List.mem_of_getElem? (i := 9) rfl)) (hw _ (List.mem_of_getElem? (i := 5) rfl)) (by decide) (by decide)) (g := (mkF m 12 #[.val (.int p8_0), .val (.int p8_1), .val (.int p8_2), .val (.int p8_3)] [(.int p8_1), (.int p8_0)])) rfl (by rw [hml]; rfl) (argsL := [(.int p8_0), (.int p8_1)]) (rest := []) (lenOf own_pd0 rfl) rfl (by show 2 * 0 + _ ≤ _; exact Nat.le_of_eq rfl) (hb hby own_d8_12) (fun _ _ => ⟨rfl, e0, (by decide : 0 + 0 ≤ _), (by decide : 0 + 0 ≤ _)⟩)
    dsimp only [Pt.U, Pt.locs, Pt.cells, Pt.slots] at Xk8_4 lk8_4 yk8_4 zk8_4 stk8_4 hQk8_4
    replace lk8_4 := lk8_4.symm; replace yk8_4 := yk8_4.symm; replace zk8_4 := zk8_4.symm; subst lk8_4 yk8_4 zk8_4
    obtain ⟨rfl, Nk8_4q, ek8_4⟩ := hQk8_4
    have Nk8_4 := Fr.app N0 Nk8_4q
    have Ks8_5 : ∀ t, Steps p.tables e below (Tk8_4.setTop (mkF m 15 #[.val (.int p8_0), .val (.int p8_1), .val (.int p8_2), .val (.int p8_3)] [(.int (own_r2_1 p8_0 p8_1))])) t → Steps p.tables e below (s₁.setTop (mkF m 10 #[.val (.int p8_0), .val (.int p8_1), .val (.int p8_2), .val (.int p8_3)] [])) t := by
      intro t kt
      show Steps p.tables e below (s₁.setTop (mkF m 10 #[.val (.int p8_0), .val (.int p8_1), .val (.int p8_2), .val (.int p8_3)] [])) _
      refine XS.iloadN X0.here hx rfl (hb hby own_d8_10) rfl ?_
      show Steps p.tables e below (s₁.setTop (mkF m 11 #[.val (.int p8_0), .val (.int p8_1), .val (.int p8_2), .val (.int p8_3)] [(.int p8_0)])) _
      refine XS.iloadN X0.here hx rfl (hb hby own_d8_11) rfl ?_
      show Steps p.tables e below (s₁.setTop (mkF m 12 #[.val (.int p8_0), .val (.int p8_1), .val (.int p8_2), .val (.int p8_3)] [(.int p8_1), (.int p8_0)])) _
      refine stk8_4 _ ?_
      exact kt
    by_cases hs8_5 : (own_r2_1 p8_0 p8_1) = (0 : Int32)
    · have K8_6 : ∀ t, Steps p.tables e below (Tk8_4.setTop (mkF m 20 #[.val (.int p8_0), .val (.int p8_1), .val (.int p8_2), .val (.int p8_3)] [])) t → Steps p.tables e below (Tk8_4.setTop (mkF m 15 #[.val (.int p8_0), .val (.int p8_1), .val (.int p8_2), .val (.int p8_3)] [(.int (own_r2_1 p8_0 p8_1))])) t := by
        intro t kt
        show Steps p.tables e below (Tk8_4.setTop (mkF m 15 #[.val (.int p8_0), .val (.int p8_1), .val (.int p8_2), .val (.int p8_3)] [(.int (own_r2_1 p8_0 p8_1))])) _
        refine XS.ifYes Xk8_4.here hx rfl (pc0 := 15) (pc' := 20) rfl (hb hby own_d8_15) rfl (XT.i0_eq_t hs8_5) (by decide) (by decide) ?_
        exact kt
      have Ks8_7 : ∀ t, Steps p.tables e below (Tk8_4.setTop (mkF m 22 #[.val (.int p8_0), .val (.int p8_1), .val (.int p8_2), .val (.int p8_3)] [(.int p8_3), (.int p8_2)])) t → Steps p.tables e below (Tk8_4.setTop (mkF m 20 #[.val (.int p8_0), .val (.int p8_1), .val (.int p8_2), .val (.int p8_3)] [])) t := by
        intro t kt
        show Steps p.tables e below (Tk8_4.setTop (mkF m 20 #[.val (.int p8_0), .val (.int p8_1), .val (.int p8_2), .val (.int p8_3)] [])) _
        refine XS.iloadN Xk8_4.here hx rfl (hb hby own_d8_20) rfl ?_
        show Steps p.tables e below (Tk8_4.setTop (mkF m 21 #[.val (.int p8_0), .val (.int p8_1), .val (.int p8_2), .val (.int p8_3)] [(.int p8_2)])) _
        refine XS.iloadN Xk8_4.here hx rfl (hb hby own_d8_21) rfl ?_
        exact kt
      by_cases hs8_7 : p8_3 < p8_2
      · have K8_8 : ∀ t, Steps p.tables e below (Tk8_4.setTop (mkF m 25 #[.val (.int p8_0), .val (.int p8_1), .val (.int p8_2), .val (.int p8_3)] [])) t → Steps p.tables e below (Tk8_4.setTop (mkF m 22 #[.val (.int p8_0), .val (.int p8_1), .val (.int p8_2), .val (.int p8_3)] [(.int p8_3), (.int p8_2)])) t := by
          intro t kt
          show Steps p.tables e below (Tk8_4.setTop (mkF m 22 #[.val (.int p8_0), .val (.int p8_1), .val (.int p8_2), .val (.int p8_3)] [(.int p8_3), (.int p8_2)])) _
          refine XS.icmpNo Xk8_4.here hx rfl (hb hby own_d8_22) rfl (XT.ii_le_f hs8_7) ?_
          exact kt
        obtain ⟨fs, hr, hrun, hended, hW, hsame⟩ := Xk8_4.leave (v := some (.int (1 : Int32))) (fun h => by rw [Bd.returns] at h; cases h)
        refine ⟨_, _, pre0 _ (Ks8_1 _ (K8_3 _ (Ks8_5 _ (K8_6 _ (Ks8_7 _ (K8_8 _ (?_))))))), hrun, hended, _, _, rfl, ?_, ⟨_, rfl⟩, hW, hsame.mono (by decide) (by decide)⟩
        · show Steps p.tables e below (Tk8_4.setTop (mkF m 25 #[.val (.int p8_0), .val (.int p8_1), .val (.int p8_2), .val (.int p8_3)] [])) _
          refine XS.iconst Xk8_4.here hx rfl (hb hby own_d8_25) ?_
          show Steps p.tables e below (Tk8_4.setTop (mkF m 26 #[.val (.int p8_0), .val (.int p8_1), .val (.int p8_2), .val (.int p8_3)] [(.int (1 : Int32))])) _
          exact retI Xk8_4 hx Bd.returns (hb hby own_d8_26) hr
        · show own_Q8 Z p8_0 p8_1 p8_2 p8_3 h0 n0 _ Tk8_4.heap _
          rw [ek8_4]
          exact ⟨(congrArg (fun z => some (Value.int z)) (show (1 : Int32) = (own_r8_0 p8_0 p8_1 p8_2 p8_3) from ((if_neg hs8_1).trans ((if_pos hs8_5).trans (if_pos hs8_7))).symm)), Nk8_4, rfl⟩
      · have K8_9 : ∀ t, Steps p.tables e below (Tk8_4.setTop (mkF m 27 #[.val (.int p8_0), .val (.int p8_1), .val (.int p8_2), .val (.int p8_3)] [])) t → Steps p.tables e below (Tk8_4.setTop (mkF m 22 #[.val (.int p8_0), .val (.int p8_1), .val (.int p8_2), .val (.int p8_3)] [(.int p8_3), (.int p8_2)])) t := by
          intro t kt
          show Steps p.tables e below (Tk8_4.setTop (mkF m 22 #[.val (.int p8_0), .val (.int p8_1), .val (.int p8_2), .val (.int p8_3)] [(.int p8_3), (.int p8_2)])) _
          refine XS.icmpYes Xk8_4.here hx rfl (pc0 := 22) (pc' := 27) rfl (hb hby own_d8_22) rfl (XT.ii_le_t hs8_7) (by decide) (by decide) ?_
          exact kt
        obtain ⟨fs, hr, hrun, hended, hW, hsame⟩ := Xk8_4.leave (v := some (.int (0 : Int32))) (fun h => by rw [Bd.returns] at h; cases h)
        refine ⟨_, _, pre0 _ (Ks8_1 _ (K8_3 _ (Ks8_5 _ (K8_6 _ (Ks8_7 _ (K8_9 _ (?_))))))), hrun, hended, _, _, rfl, ?_, ⟨_, rfl⟩, hW, hsame.mono (by decide) (by decide)⟩
        · show Steps p.tables e below (Tk8_4.setTop (mkF m 27 #[.val (.int p8_0), .val (.int p8_1), .val (.int p8_2), .val (.int p8_3)] [])) _
          refine XS.iconst Xk8_4.here hx rfl (hb hby own_d8_27) ?_
          show Steps p.tables e below (Tk8_4.setTop (mkF m 28 #[.val (.int p8_0), .val (.int p8_1), .val (.int p8_2), .val (.int p8_3)] [(.int (0 : Int32))])) _
          exact retI Xk8_4 hx Bd.returns (hb hby own_d8_28) hr
        · show own_Q8 Z p8_0 p8_1 p8_2 p8_3 h0 n0 _ Tk8_4.heap _
          rw [ek8_4]
          exact ⟨(congrArg (fun z => some (Value.int z)) (show (0 : Int32) = (own_r8_0 p8_0 p8_1 p8_2 p8_3) from ((if_neg hs8_1).trans ((if_pos hs8_5).trans (if_neg hs8_7))).symm)), Nk8_4, rfl⟩
    · have K8_10 : ∀ t, Steps p.tables e below (Tk8_4.setTop (mkF m 18 #[.val (.int p8_0), .val (.int p8_1), .val (.int p8_2), .val (.int p8_3)] [])) t → Steps p.tables e below (Tk8_4.setTop (mkF m 15 #[.val (.int p8_0), .val (.int p8_1), .val (.int p8_2), .val (.int p8_3)] [(.int (own_r2_1 p8_0 p8_1))])) t := by
        intro t kt
        show Steps p.tables e below (Tk8_4.setTop (mkF m 15 #[.val (.int p8_0), .val (.int p8_1), .val (.int p8_2), .val (.int p8_3)] [(.int (own_r2_1 p8_0 p8_1))])) _
        refine XS.ifNo Xk8_4.here hx rfl (hb hby own_d8_15) rfl (XT.i0_eq_f hs8_5) ?_
        exact kt
      obtain ⟨fs, hr, hrun, hended, hW, hsame⟩ := Xk8_4.leave (v := some (.int (1 : Int32))) (fun h => by rw [Bd.returns] at h; cases h)
      refine ⟨_, _, pre0 _ (Ks8_1 _ (K8_3 _ (Ks8_5 _ (K8_10 _ (?_))))), hrun, hended, _, _, rfl, ?_, ⟨_, rfl⟩, hW, hsame.mono (by decide) (by decide)⟩
      · show Steps p.tables e below (Tk8_4.setTop (mkF m 18 #[.val (.int p8_0), .val (.int p8_1), .val (.int p8_2), .val (.int p8_3)] [])) _
        refine XS.iconst Xk8_4.here hx rfl (hb hby own_d8_18) ?_
        show Steps p.tables e below (Tk8_4.setTop (mkF m 19 #[.val (.int p8_0), .val (.int p8_1), .val (.int p8_2), .val (.int p8_3)] [(.int (1 : Int32))])) _
        exact retI Xk8_4 hx Bd.returns (hb hby own_d8_19) hr
      · show own_Q8 Z p8_0 p8_1 p8_2 p8_3 h0 n0 _ Tk8_4.heap _
        rw [ek8_4]
        exact ⟨(congrArg (fun z => some (Value.int z)) (show (1 : Int32) = (own_r8_0 p8_0 p8_1 p8_2 p8_3) from ((if_neg hs8_1).trans (if_neg hs8_5)).symm)), Nk8_4, rfl⟩
theorem own_d7_0 : decode prog_76_method_4_code 0 = .ok (.iconst 0, 1) := by decide +kernel
theorem own_d7_1 : decode prog_76_method_4_code 1 = .ok (.istore_n 3, 1) := by decide +kernel
theorem own_d7_2 : decode prog_76_method_4_code 2 = .ok (.iconst 0, 1) := by decide +kernel
theorem own_d7_3 : decode prog_76_method_4_code 3 = .ok (.istore 4, 2) := by decide +kernel
theorem own_d7_5 : decode prog_76_method_4_code 5 = .ok (.iload 4, 2) := by decide +kernel
theorem own_d7_7 : decode prog_76_method_4_code 7 = .ok (.aload_n 0, 1) := by decide +kernel
theorem own_d7_8 : decode prog_76_method_4_code 8 = .ok (.getfield 17, 3) := by decide +kernel
theorem own_d7_11 : decode prog_76_method_4_code 11 = .ok (.arraylength, 1) := by decide +kernel
theorem own_d7_12 : decode prog_76_method_4_code 12 = .ok (.if_icmp .ge 34, 3) := by decide +kernel
theorem own_d7_15 : decode prog_76_method_4_code 15 = .ok (.aload_n 0, 1) := by decide +kernel
theorem own_d7_16 : decode prog_76_method_4_code 16 = .ok (.getfield 17, 3) := by decide +kernel
theorem own_d7_19 : decode prog_76_method_4_code 19 = .ok (.iload 4, 2) := by decide +kernel
theorem own_d7_21 : decode prog_76_method_4_code 21 = .ok (.baload, 1) := by decide +kernel
theorem own_d7_22 : decode prog_76_method_4_code 22 = .ok (.ifCond .eq 18, 3) := by decide +kernel
theorem own_d7_25 : decode prog_76_method_4_code 25 = .ok (.aload_n 0, 1) := by decide +kernel
theorem own_d7_26 : decode prog_76_method_4_code 26 = .ok (.getfield 13, 3) := by decide +kernel
theorem own_d7_29 : decode prog_76_method_4_code 29 = .ok (.iload 4, 2) := by decide +kernel
theorem own_d7_31 : decode prog_76_method_4_code 31 = .ok (.daload, 1) := by decide +kernel
theorem own_d7_32 : decode prog_76_method_4_code 32 = .ok (.dload_n 1, 1) := by decide +kernel
theorem own_d7_33 : decode prog_76_method_4_code 33 = .ok (.dcmp .l, 1) := by decide +kernel
theorem own_d7_34 : decode prog_76_method_4_code 34 = .ok (.ifCond .le 6, 3) := by decide +kernel
theorem own_d7_37 : decode prog_76_method_4_code 37 = .ok (.iinc 3 1, 3) := by decide +kernel
theorem own_d7_40 : decode prog_76_method_4_code 40 = .ok (.iinc 4 1, 3) := by decide +kernel
theorem own_d7_43 : decode prog_76_method_4_code 43 = .ok (.goto (-38), 3) := by decide +kernel
theorem own_d7_46 : decode prog_76_method_4_code 46 = .ok (.iload_n 3, 1) := by decide +kernel
theorem own_d7_47 : decode prog_76_method_4_code 47 = .ok (.ireturn, 1) := by decide +kernel
def own_j7_0 (d7_1 : UInt64) (x_w_rootDelayMs_a7_0_0 : UInt64) : Int32 := if (0 : Int32) < (cmpValue (FP.dcmp x_w_rootDelayMs_a7_0_0 d7_1) .l) then (1 : Int32) else (0 : Int32)
def own_j7_1 (d7_1 : UInt64) (x_w_running_a7_0_0 : Int32) (x_w_rootDelayMs_a7_0_0 : UInt64) : Int32 := if x_w_running_a7_0_0 = (0 : Int32) then (0 : Int32) else (own_j7_0 d7_1 x_w_rootDelayMs_a7_0_0)
def own_j7_2 (d7_1 : UInt64) (x_w_running_a7_0_0 : Int32) (x_w_rootDelayMs_a7_0_0 : UInt64) (x_w_rootDelayMs_a7_0_1 : UInt64) : Int32 := if (0 : Int32) < (cmpValue (FP.dcmp x_w_rootDelayMs_a7_0_1 d7_1) .l) then ((own_j7_1 d7_1 x_w_running_a7_0_0 x_w_rootDelayMs_a7_0_0) + (1 : Int32)) else (own_j7_1 d7_1 x_w_running_a7_0_0 x_w_rootDelayMs_a7_0_0)
def own_j7_3 (d7_1 : UInt64) (x_w_running_a7_0_0 : Int32) (x_w_running_a7_0_1 : Int32) (x_w_rootDelayMs_a7_0_0 : UInt64) (x_w_rootDelayMs_a7_0_1 : UInt64) : Int32 := if x_w_running_a7_0_1 = (0 : Int32) then (own_j7_1 d7_1 x_w_running_a7_0_0 x_w_rootDelayMs_a7_0_0) else (own_j7_2 d7_1 x_w_running_a7_0_0 x_w_rootDelayMs_a7_0_0 x_w_rootDelayMs_a7_0_1)
def own_j7_4 (d7_1 : UInt64) (x_w_running_a7_0_0 : Int32) (x_w_running_a7_0_1 : Int32) (x_w_rootDelayMs_a7_0_0 : UInt64) (x_w_rootDelayMs_a7_0_1 : UInt64) (x_w_rootDelayMs_a7_0_2 : UInt64) : Int32 := if (0 : Int32) < (cmpValue (FP.dcmp x_w_rootDelayMs_a7_0_2 d7_1) .l) then ((own_j7_3 d7_1 x_w_running_a7_0_0 x_w_running_a7_0_1 x_w_rootDelayMs_a7_0_0 x_w_rootDelayMs_a7_0_1) + (1 : Int32)) else (own_j7_3 d7_1 x_w_running_a7_0_0 x_w_running_a7_0_1 x_w_rootDelayMs_a7_0_0 x_w_rootDelayMs_a7_0_1)
def own_j7_5 (d7_1 : UInt64) (x_w_running_a7_0_0 : Int32) (x_w_running_a7_0_1 : Int32) (x_w_running_a7_0_2 : Int32) (x_w_rootDelayMs_a7_0_0 : UInt64) (x_w_rootDelayMs_a7_0_1 : UInt64) (x_w_rootDelayMs_a7_0_2 : UInt64) : Int32 := if x_w_running_a7_0_2 = (0 : Int32) then (own_j7_3 d7_1 x_w_running_a7_0_0 x_w_running_a7_0_1 x_w_rootDelayMs_a7_0_0 x_w_rootDelayMs_a7_0_1) else (own_j7_4 d7_1 x_w_running_a7_0_0 x_w_running_a7_0_1 x_w_rootDelayMs_a7_0_0 x_w_rootDelayMs_a7_0_1 x_w_rootDelayMs_a7_0_2)
def own_j7_6 (d7_1 : UInt64) (x_w_running_a7_0_0 : Int32) (x_w_running_a7_0_1 : Int32) (x_w_running_a7_0_2 : Int32) (x_w_rootDelayMs_a7_0_0 : UInt64) (x_w_rootDelayMs_a7_0_1 : UInt64) (x_w_rootDelayMs_a7_0_2 : UInt64) (x_w_rootDelayMs_a7_0_3 : UInt64) : Int32 := if (0 : Int32) < (cmpValue (FP.dcmp x_w_rootDelayMs_a7_0_3 d7_1) .l) then ((own_j7_5 d7_1 x_w_running_a7_0_0 x_w_running_a7_0_1 x_w_running_a7_0_2 x_w_rootDelayMs_a7_0_0 x_w_rootDelayMs_a7_0_1 x_w_rootDelayMs_a7_0_2) + (1 : Int32)) else (own_j7_5 d7_1 x_w_running_a7_0_0 x_w_running_a7_0_1 x_w_running_a7_0_2 x_w_rootDelayMs_a7_0_0 x_w_rootDelayMs_a7_0_1 x_w_rootDelayMs_a7_0_2)
def own_j7_7 (d7_1 : UInt64) (x_w_running_a7_0_0 : Int32) (x_w_running_a7_0_1 : Int32) (x_w_running_a7_0_2 : Int32) (x_w_running_a7_0_3 : Int32) (x_w_rootDelayMs_a7_0_0 : UInt64) (x_w_rootDelayMs_a7_0_1 : UInt64) (x_w_rootDelayMs_a7_0_2 : UInt64) (x_w_rootDelayMs_a7_0_3 : UInt64) : Int32 := if x_w_running_a7_0_3 = (0 : Int32) then (own_j7_5 d7_1 x_w_running_a7_0_0 x_w_running_a7_0_1 x_w_running_a7_0_2 x_w_rootDelayMs_a7_0_0 x_w_rootDelayMs_a7_0_1 x_w_rootDelayMs_a7_0_2) else (own_j7_6 d7_1 x_w_running_a7_0_0 x_w_running_a7_0_1 x_w_running_a7_0_2 x_w_rootDelayMs_a7_0_0 x_w_rootDelayMs_a7_0_1 x_w_rootDelayMs_a7_0_2 x_w_rootDelayMs_a7_0_3)
def own_r7_8 (d7_1 : UInt64) (x_w_running_a7_0_0 : Int32) (x_w_running_a7_0_1 : Int32) (x_w_running_a7_0_2 : Int32) (x_w_running_a7_0_3 : Int32) (x_w_rootDelayMs_a7_0_0 : UInt64) (x_w_rootDelayMs_a7_0_1 : UInt64) (x_w_rootDelayMs_a7_0_2 : UInt64) (x_w_rootDelayMs_a7_0_3 : UInt64) : Int32 := (own_j7_7 d7_1 x_w_running_a7_0_0 x_w_running_a7_0_1 x_w_running_a7_0_2 x_w_running_a7_0_3 x_w_rootDelayMs_a7_0_0 x_w_rootDelayMs_a7_0_1 x_w_rootDelayMs_a7_0_2 x_w_rootDelayMs_a7_0_3)
theorem own_ef7 (m : MethodId) (a7_0 : Addr) (d7_1 : UInt64) : entryFrame m #[(.ref a7_0), (.double d7_1)] 5 = mkF m 0 #[.val (.ref a7_0), .val (.double d7_1), .second, .unset, .unset] [] := by first | (simp [entryFrame, mkF, argsToLocals, Value.category]; done) | rfl
def own_Q7 (Z : State) (a7_0 : Addr) (d7_1 : UInt64) (w_running_a7_0 : Addr) (k_w_running_a7_0 : ClassId) (x_w_running_a7_0_0 : Int32) (x_w_running_a7_0_1 : Int32) (x_w_running_a7_0_2 : Int32) (x_w_running_a7_0_3 : Int32) (w_rootDelayMs_a7_0 : Addr) (k_w_rootDelayMs_a7_0 : ClassId) (x_w_rootDelayMs_a7_0_0 : UInt64) (x_w_rootDelayMs_a7_0_1 : UInt64) (x_w_rootDelayMs_a7_0_2 : UInt64) (x_w_rootDelayMs_a7_0_3 : UInt64) (h0 : Heap) (n0 : Nat) (v : Option Value) (h : Heap) (L : List Loc) : Prop := v = some (.int (own_r7_8 d7_1 x_w_running_a7_0_0 x_w_running_a7_0_1 x_w_running_a7_0_2 x_w_running_a7_0_3 x_w_rootDelayMs_a7_0_0 x_w_rootDelayMs_a7_0_1 x_w_rootDelayMs_a7_0_2 x_w_rootDelayMs_a7_0_3)) ∧ Fr n0 L ∧ h = h0
set_option maxRecDepth 65536 in
set_option maxHeartbeats 40000000 in
theorem own_rm7 (l : Launch) (Z : State) (a0 : Array Value) (hw : ∀ d ∈ tables_1, d.before a0 Z = true) (ws : List Jvm.Cond) (a7_0 : Addr) (d7_1 : UInt64) (w_running_a7_0 : Addr) (k_w_running_a7_0 : ClassId) (x_w_running_a7_0_0 : Int32) (x_w_running_a7_0_1 : Int32) (x_w_running_a7_0_2 : Int32) (x_w_running_a7_0_3 : Int32) (w_rootDelayMs_a7_0 : Addr) (k_w_rootDelayMs_a7_0 : ClassId) (x_w_rootDelayMs_a7_0_0 : UInt64) (x_w_rootDelayMs_a7_0_1 : UInt64) (x_w_rootDelayMs_a7_0_2 : UInt64) (x_w_rootDelayMs_a7_0_3 : UInt64) (h0 : Heap) (n0 : Nat) (Z0 : n0 ≤ h0.size) (F_running_a7_0 : Fld Z h0 a7_0 "com/example/arborway/arborway/sim/RunTally$Walk" "running" "[Z" (.ref w_running_a7_0)) (V_w_running_a7_0 : Arv Z h0 w_running_a7_0 k_w_running_a7_0 .boolean (4 : Int32) [(.int x_w_running_a7_0_0), (.int x_w_running_a7_0_1), (.int x_w_running_a7_0_2), (.int x_w_running_a7_0_3)] (.int (0 : Int32))) (F_rootDelayMs_a7_0 : Fld Z h0 a7_0 "com/example/arborway/arborway/sim/RunTally$Walk" "rootDelayMs" "[D" (.ref w_rootDelayMs_a7_0)) (V_w_rootDelayMs_a7_0 : Arv Z h0 w_rootDelayMs_a7_0 k_w_rootDelayMs_a7_0 .double (4 : Int32) [(.double x_w_rootDelayMs_a7_0_0), (.double x_w_rootDelayMs_a7_0_1), (.double x_w_rootDelayMs_a7_0_2), (.double x_w_rootDelayMs_a7_0_3)] (.double (0 : UInt64))) :
    MetFree l (⟨"com/example/arborway/arborway/sim/RunTally$Walk", "over", "(D)I"⟩ : MethodName) (head1 (Jvm.Cond.code (⟨"com/example/arborway/arborway/sim/RunTally$Walk", "over", "(D)I"⟩ : MethodName) prog_76_method_4_code 5 (some .int) :: ws) ({ frames := 0, cells := 0, slots := 0, locals := 0 } : Room)) (fun a U => a = #[(.ref a7_0), (.double d7_1)] ∧ Z.Warmed39 U.vm ∧ U.heap = h0) (fun _ _ _ _ _ => True) (fun _ U o U' => ∃ v L, o = .returned v ∧ own_Q7 Z a7_0 d7_1 w_running_a7_0 k_w_running_a7_0 x_w_running_a7_0_0 x_w_running_a7_0_1 x_w_running_a7_0_2 x_w_running_a7_0_3 w_rootDelayMs_a7_0 k_w_rootDelayMs_a7_0 x_w_rootDelayMs_a7_0_0 x_w_rootDelayMs_a7_0_1 x_w_rootDelayMs_a7_0_2 x_w_rootDelayMs_a7_0_3 h0 n0 v U'.heap L ∧ FrameEnd U o U' L ({ frames := 0, cells := 0, slots := 0, locals := 0 } : Room).cells ({ frames := 0, cells := 0, slots := 0, locals := 0 } : Room).slots) := by
  refine MetFree.of_bodySF (plainFor_of_name own_pn2) hisR ?_
  intro p e s m args below meth c s₁ Bd hml0 hP hK
  obtain ⟨rfl, hZ, hh⟩ := hP
  have hx := Bd.exec
  have hby := Bd.bytes
  have hml : c.maxLocals = 5 := hml0
  have hown : s.vm.findClass "com/example/arborway/arborway/sim/RunTally$Walk" = some m.cls := findClass_of_methodNamed Bd.named
  have hnm := (name_of_methodNamed Bd.named Bd.method).1
  have X0 : Stand p l e ({ frames := 0, cells := 0, slots := 0, locals := 0 } : Room) s m #[(.ref a7_0), (.double d7_1)] below meth c s₁ [] 0 0 := Stand.of_body Bd
  have e0 : s₁.heap = h0 := by rw [← hh, Bd.state]; rfl
  have N0 := Fr.nil n0
  have Zr : h0.size ≤ h0.size := Nat.le_refl _
  have pre0 : ∀ t, Steps p.tables e below (s₁.setTop (mkF m 0 #[.val (.ref a7_0), .val (.double d7_1), .second, .unset, .unset] [])) t → Steps p.tables e below (s₁.setTop (entryFrame m #[(.ref a7_0), (.double d7_1)] 5)) t := fun t k => castTop (own_ef7 m a7_0 d7_1) k
  obtain ⟨Tn7_1, Xn7_1, en7_1, stn7_1⟩ := getF X0 hx hZ hown (host := "") (Or.inl (hw _ (List.mem_of_getElem? (i := 31) rfl))) Via.refl e0 F_running_a7_0 (g := (mkF m 8 #[.val (.ref a7_0), .val (.double d7_1), .second, .val (.int (0 : Int32)), .val (.int (0 : Int32))] [(.ref a7_0), (.int (0 : Int32))])) rfl rfl (hb hby own_d7_8)
  have Oo7_2 := V_w_running_a7_0
  obtain ⟨clo7_2, Aro7_2, qo7_2, So7_2, No7_2, Ho7_2, Go7_2⟩ := Oo7_2
  obtain ⟨Tn7_3, Xn7_3, en7_3, stn7_3⟩ := getF Xn7_1 hx hZ hown (host := "") (Or.inl (hw _ (List.mem_of_getElem? (i := 31) rfl))) Via.refl en7_1 F_running_a7_0 (g := (mkF m 16 #[.val (.ref a7_0), .val (.double d7_1), .second, .val (.int (0 : Int32)), .val (.int (0 : Int32))] [(.ref a7_0)])) rfl rfl (hb hby own_d7_16)
  have Oo7_4 := V_w_running_a7_0
  obtain ⟨clo7_4, Aro7_4, qo7_4, So7_4, No7_4, Ho7_4, Go7_4⟩ := Oo7_4
  have hino7_4 : ¬ ((0 : Int32) < 0 ∨ clo7_4.slots.size ≤ ((0 : Int32)).toNatClampNeg) := inb_of So7_4 ⟨by decide, by decide⟩
  have hato7_4 : clo7_4.slots[((0 : Int32)).toNatClampNeg]? = some (.int x_w_running_a7_0_0) := Ho7_4.at hino7_4 rfl
  obtain ⟨Tj7_5, lj7_5, Xj7_5, Nj7_5, ej7_5, stj7_5⟩ : ∃ (T' : State) (l' : List Loc), Stand p l e ({ frames := 0, cells := 0, slots := 0, locals := 0 } : Room) s m #[(.ref a7_0), (.double d7_1)] below meth c T' l' 0 0 ∧ Fr n0 l' ∧ T'.heap = h0 ∧ ∀ target, Steps p.tables e below (T'.setTop (mkF m 40 #[.val (.ref a7_0), .val (.double d7_1), .second, .val (.int (own_j7_1 d7_1 x_w_running_a7_0_0 x_w_rootDelayMs_a7_0_0)), .val (.int (0 : Int32))] [])) target → Steps p.tables e below (Tn7_3.setTop (mkF m 22 #[.val (.ref a7_0), .val (.double d7_1), .second, .val (.int (0 : Int32)), .val (.int (0 : Int32))] [(.int x_w_running_a7_0_0)])) target := by
    by_cases hj7_5 : x_w_running_a7_0_0 = (0 : Int32)
    · refine ⟨_, _, Xn7_3, N0, en7_3, fun target kt => ?_⟩
      rw [(show (own_j7_1 d7_1 x_w_running_a7_0_0 x_w_rootDelayMs_a7_0_0) = (0 : Int32) from if_pos hj7_5)] at kt
      show Steps p.tables e below (Tn7_3.setTop (mkF m 22 #[.val (.ref a7_0), .val (.double d7_1), .second, .val (.int (0 : Int32)), .val (.int (0 : Int32))] [(.int x_w_running_a7_0_0)])) _
      refine XS.ifYes Xn7_3.here hx rfl (pc0 := 22) (pc' := 40) rfl (hb hby own_d7_22) rfl (XT.i0_eq_t hj7_5) (by decide) (by decide) ?_
      exact kt
    · obtain ⟨Tn7_6, Xn7_6, en7_6, stn7_6⟩ := getF Xn7_3 hx hZ hown (host := "") (Or.inl (hw _ (List.mem_of_getElem? (i := 29) rfl))) Via.refl en7_3 F_rootDelayMs_a7_0 (g := (mkF m 26 #[.val (.ref a7_0), .val (.double d7_1), .second, .val (.int (0 : Int32)), .val (.int (0 : Int32))] [(.ref a7_0)])) rfl rfl (hb hby own_d7_26)
      have Oo7_7 := V_w_rootDelayMs_a7_0
      obtain ⟨clo7_7, Aro7_7, qo7_7, So7_7, No7_7, Ho7_7, Go7_7⟩ := Oo7_7
      have hino7_7 : ¬ ((0 : Int32) < 0 ∨ clo7_7.slots.size ≤ ((0 : Int32)).toNatClampNeg) := inb_of So7_7 ⟨by decide, by decide⟩
      have hato7_7 : clo7_7.slots[((0 : Int32)).toNatClampNeg]? = some (.double x_w_rootDelayMs_a7_0_0) := Ho7_7.at hino7_7 rfl
      obtain ⟨Tj7_8, lj7_8, Xj7_8, Nj7_8, ej7_8, stj7_8⟩ : ∃ (T' : State) (l' : List Loc), Stand p l e ({ frames := 0, cells := 0, slots := 0, locals := 0 } : Room) s m #[(.ref a7_0), (.double d7_1)] below meth c T' l' 0 0 ∧ Fr n0 l' ∧ T'.heap = h0 ∧ ∀ target, Steps p.tables e below (T'.setTop (mkF m 40 #[.val (.ref a7_0), .val (.double d7_1), .second, .val (.int (own_j7_0 d7_1 x_w_rootDelayMs_a7_0_0)), .val (.int (0 : Int32))] [])) target → Steps p.tables e below (Tn7_6.setTop (mkF m 34 #[.val (.ref a7_0), .val (.double d7_1), .second, .val (.int (0 : Int32)), .val (.int (0 : Int32))] [(.int (cmpValue (FP.dcmp x_w_rootDelayMs_a7_0_0 d7_1) .l))])) target := by
        by_cases hj7_8 : (0 : Int32) < (cmpValue (FP.dcmp x_w_rootDelayMs_a7_0_0 d7_1) .l)
        · refine ⟨_, _, Xn7_6, N0, en7_6, fun target kt => ?_⟩
          rw [(show (own_j7_0 d7_1 x_w_rootDelayMs_a7_0_0) = (1 : Int32) from if_pos hj7_8)] at kt
          show Steps p.tables e below (Tn7_6.setTop (mkF m 34 #[.val (.ref a7_0), .val (.double d7_1), .second, .val (.int (0 : Int32)), .val (.int (0 : Int32))] [(.int (cmpValue (FP.dcmp x_w_rootDelayMs_a7_0_0 d7_1) .l))])) _
          refine XS.ifNo Xn7_6.here hx rfl (hb hby own_d7_34) rfl (XT.i0_le_f hj7_8) ?_
          show Steps p.tables e below (Tn7_6.setTop (mkF m 37 #[.val (.ref a7_0), .val (.double d7_1), .second, .val (.int (0 : Int32)), .val (.int (0 : Int32))] [])) _
          refine XS.iinc Xn7_6.here hx rfl (hb hby own_d7_37) rfl (l' := #[.val (.ref a7_0), .val (.double d7_1), .second, .val (.int (1 : Int32)), .val (.int (0 : Int32))]) rfl ?_
          exact kt
        · refine ⟨_, _, Xn7_6, N0, en7_6, fun target kt => ?_⟩
          rw [(show (own_j7_0 d7_1 x_w_rootDelayMs_a7_0_0) = (0 : Int32) from if_neg hj7_8)] at kt
          show Steps p.tables e below (Tn7_6.setTop (mkF m 34 #[.val (.ref a7_0), .val (.double d7_1), .second, .val (.int (0 : Int32)), .val (.int (0 : Int32))] [(.int (cmpValue (FP.dcmp x_w_rootDelayMs_a7_0_0 d7_1) .l))])) _
          refine XS.ifYes Xn7_6.here hx rfl (pc0 := 34) (pc' := 40) rfl (hb hby own_d7_34) rfl (XT.i0_le_t hj7_8) (by decide) (by decide) ?_
          exact kt
      refine ⟨_, _, Xj7_8, Nj7_8, ej7_8, fun target kt => ?_⟩
      rw [(show (own_j7_1 d7_1 x_w_running_a7_0_0 x_w_rootDelayMs_a7_0_0) = (own_j7_0 d7_1 x_w_rootDelayMs_a7_0_0) from if_neg hj7_5)] at kt
      show Steps p.tables e below (Tn7_3.setTop (mkF m 22 #[.val (.ref a7_0), .val (.double d7_1), .second, .val (.int (0 : Int32)), .val (.int (0 : Int32))] [(.int x_w_running_a7_0_0)])) _
      refine XS.ifNo Xn7_3.here hx rfl (hb hby own_d7_22) rfl (XT.i0_eq_f hj7_5) ?_
      show Steps p.tables e below (Tn7_3.setTop (mkF m 25 #[.val (.ref a7_0), .val (.double d7_1), .second, .val (.int (0 : Int32)), .val (.int (0 : Int32))] [])) _
      refine XS.aloadN Xn7_3.here hx rfl (hb hby own_d7_25) rfl rfl ?_
      show Steps p.tables e below (Tn7_3.setTop (mkF m 26 #[.val (.ref a7_0), .val (.double d7_1), .second, .val (.int (0 : Int32)), .val (.int (0 : Int32))] [(.ref a7_0)])) _
      refine stn7_6 _ ?_
      show Steps p.tables e below (Tn7_6.setTop (mkF m 29 #[.val (.ref a7_0), .val (.double d7_1), .second, .val (.int (0 : Int32)), .val (.int (0 : Int32))] [(.ref w_rootDelayMs_a7_0)])) _
      refine XS.iload Xn7_6.here hx rfl (hb hby own_d7_29) rfl ?_
      show Steps p.tables e below (Tn7_6.setTop (mkF m 31 #[.val (.ref a7_0), .val (.double d7_1), .second, .val (.int (0 : Int32)), .val (.int (0 : Int32))] [(.int (0 : Int32)), (.ref w_rootDelayMs_a7_0)])) _
      refine Xn7_6.daload hx (j := (0 : Int32)) (v := (.double x_w_rootDelayMs_a7_0_0)) (by rw [en7_6]; exact Aro7_7.1) (State.isArrayOf_alike hZ.alike Aro7_7.2.1) Aro7_7.2.2 hino7_7 hato7_7 (g := (mkF m 31 #[.val (.ref a7_0), .val (.double d7_1), .second, .val (.int (0 : Int32)), .val (.int (0 : Int32))] [(.int (0 : Int32)), (.ref w_rootDelayMs_a7_0)])) rfl rfl (hb hby own_d7_31) _ ?_
      show Steps p.tables e below (Tn7_6.setTop (mkF m 32 #[.val (.ref a7_0), .val (.double d7_1), .second, .val (.int (0 : Int32)), .val (.int (0 : Int32))] [(.double x_w_rootDelayMs_a7_0_0)])) _
      refine XS.dloadN Xn7_6.here hx rfl (hb hby own_d7_32) rfl ?_
      show Steps p.tables e below (Tn7_6.setTop (mkF m 33 #[.val (.ref a7_0), .val (.double d7_1), .second, .val (.int (0 : Int32)), .val (.int (0 : Int32))] [(.double d7_1), (.double x_w_rootDelayMs_a7_0_0)])) _
      refine XS.dcmpS Xn7_6.here hx rfl (hb hby own_d7_33) rfl rfl ?_
      show Steps p.tables e below (Tn7_6.setTop (mkF m 34 #[.val (.ref a7_0), .val (.double d7_1), .second, .val (.int (0 : Int32)), .val (.int (0 : Int32))] [(.int (cmpValue (FP.dcmp x_w_rootDelayMs_a7_0_0 d7_1) .l))])) _
      refine stj7_8 _ ?_
      exact kt
  obtain ⟨Tn7_9, Xn7_9, en7_9, stn7_9⟩ := getF Xj7_5 hx hZ hown (host := "") (Or.inl (hw _ (List.mem_of_getElem? (i := 31) rfl))) Via.refl ej7_5 F_running_a7_0 (g := (mkF m 8 #[.val (.ref a7_0), .val (.double d7_1), .second, .val (.int (own_j7_1 d7_1 x_w_running_a7_0_0 x_w_rootDelayMs_a7_0_0)), .val (.int (1 : Int32))] [(.ref a7_0), (.int (1 : Int32))])) rfl rfl (hb hby own_d7_8)
  have Oo7_10 := V_w_running_a7_0
  obtain ⟨clo7_10, Aro7_10, qo7_10, So7_10, No7_10, Ho7_10, Go7_10⟩ := Oo7_10
  obtain ⟨Tn7_11, Xn7_11, en7_11, stn7_11⟩ := getF Xn7_9 hx hZ hown (host := "") (Or.inl (hw _ (List.mem_of_getElem? (i := 31) rfl))) Via.refl en7_9 F_running_a7_0 (g := (mkF m 16 #[.val (.ref a7_0), .val (.double d7_1), .second, .val (.int (own_j7_1 d7_1 x_w_running_a7_0_0 x_w_rootDelayMs_a7_0_0)), .val (.int (1 : Int32))] [(.ref a7_0)])) rfl rfl (hb hby own_d7_16)
  have Oo7_12 := V_w_running_a7_0
  obtain ⟨clo7_12, Aro7_12, qo7_12, So7_12, No7_12, Ho7_12, Go7_12⟩ := Oo7_12
  have hino7_12 : ¬ ((1 : Int32) < 0 ∨ clo7_12.slots.size ≤ ((1 : Int32)).toNatClampNeg) := inb_of So7_12 ⟨by decide, by decide⟩
  have hato7_12 : clo7_12.slots[((1 : Int32)).toNatClampNeg]? = some (.int x_w_running_a7_0_1) := Ho7_12.at hino7_12 rfl
  obtain ⟨Tj7_13, lj7_13, Xj7_13, Nj7_13, ej7_13, stj7_13⟩ : ∃ (T' : State) (l' : List Loc), Stand p l e ({ frames := 0, cells := 0, slots := 0, locals := 0 } : Room) s m #[(.ref a7_0), (.double d7_1)] below meth c T' l' 0 0 ∧ Fr n0 l' ∧ T'.heap = h0 ∧ ∀ target, Steps p.tables e below (T'.setTop (mkF m 40 #[.val (.ref a7_0), .val (.double d7_1), .second, .val (.int (own_j7_3 d7_1 x_w_running_a7_0_0 x_w_running_a7_0_1 x_w_rootDelayMs_a7_0_0 x_w_rootDelayMs_a7_0_1)), .val (.int (1 : Int32))] [])) target → Steps p.tables e below (Tn7_11.setTop (mkF m 22 #[.val (.ref a7_0), .val (.double d7_1), .second, .val (.int (own_j7_1 d7_1 x_w_running_a7_0_0 x_w_rootDelayMs_a7_0_0)), .val (.int (1 : Int32))] [(.int x_w_running_a7_0_1)])) target := by
    by_cases hj7_13 : x_w_running_a7_0_1 = (0 : Int32)
    · refine ⟨_, _, Xn7_11, Nj7_5, en7_11, fun target kt => ?_⟩
      rw [(show (own_j7_3 d7_1 x_w_running_a7_0_0 x_w_running_a7_0_1 x_w_rootDelayMs_a7_0_0 x_w_rootDelayMs_a7_0_1) = (own_j7_1 d7_1 x_w_running_a7_0_0 x_w_rootDelayMs_a7_0_0) from if_pos hj7_13)] at kt
      show Steps p.tables e below (Tn7_11.setTop (mkF m 22 #[.val (.ref a7_0), .val (.double d7_1), .second, .val (.int (own_j7_1 d7_1 x_w_running_a7_0_0 x_w_rootDelayMs_a7_0_0)), .val (.int (1 : Int32))] [(.int x_w_running_a7_0_1)])) _
      refine XS.ifYes Xn7_11.here hx rfl (pc0 := 22) (pc' := 40) rfl (hb hby own_d7_22) rfl (XT.i0_eq_t hj7_13) (by decide) (by decide) ?_
      exact kt
    · obtain ⟨Tn7_14, Xn7_14, en7_14, stn7_14⟩ := getF Xn7_11 hx hZ hown (host := "") (Or.inl (hw _ (List.mem_of_getElem? (i := 29) rfl))) Via.refl en7_11 F_rootDelayMs_a7_0 (g := (mkF m 26 #[.val (.ref a7_0), .val (.double d7_1), .second, .val (.int (own_j7_1 d7_1 x_w_running_a7_0_0 x_w_rootDelayMs_a7_0_0)), .val (.int (1 : Int32))] [(.ref a7_0)])) rfl rfl (hb hby own_d7_26)
      have Oo7_15 := V_w_rootDelayMs_a7_0
      obtain ⟨clo7_15, Aro7_15, qo7_15, So7_15, No7_15, Ho7_15, Go7_15⟩ := Oo7_15
      have hino7_15 : ¬ ((1 : Int32) < 0 ∨ clo7_15.slots.size ≤ ((1 : Int32)).toNatClampNeg) := inb_of So7_15 ⟨by decide, by decide⟩
      have hato7_15 : clo7_15.slots[((1 : Int32)).toNatClampNeg]? = some (.double x_w_rootDelayMs_a7_0_1) := Ho7_15.at hino7_15 rfl
      obtain ⟨Tj7_16, lj7_16, Xj7_16, Nj7_16, ej7_16, stj7_16⟩ : ∃ (T' : State) (l' : List Loc), Stand p l e ({ frames := 0, cells := 0, slots := 0, locals := 0 } : Room) s m #[(.ref a7_0), (.double d7_1)] below meth c T' l' 0 0 ∧ Fr n0 l' ∧ T'.heap = h0 ∧ ∀ target, Steps p.tables e below (T'.setTop (mkF m 40 #[.val (.ref a7_0), .val (.double d7_1), .second, .val (.int (own_j7_2 d7_1 x_w_running_a7_0_0 x_w_rootDelayMs_a7_0_0 x_w_rootDelayMs_a7_0_1)), .val (.int (1 : Int32))] [])) target → Steps p.tables e below (Tn7_14.setTop (mkF m 34 #[.val (.ref a7_0), .val (.double d7_1), .second, .val (.int (own_j7_1 d7_1 x_w_running_a7_0_0 x_w_rootDelayMs_a7_0_0)), .val (.int (1 : Int32))] [(.int (cmpValue (FP.dcmp x_w_rootDelayMs_a7_0_1 d7_1) .l))])) target := by
        by_cases hj7_16 : (0 : Int32) < (cmpValue (FP.dcmp x_w_rootDelayMs_a7_0_1 d7_1) .l)
        · refine ⟨_, _, Xn7_14, Nj7_5, en7_14, fun target kt => ?_⟩
          rw [(show (own_j7_2 d7_1 x_w_running_a7_0_0 x_w_rootDelayMs_a7_0_0 x_w_rootDelayMs_a7_0_1) = ((own_j7_1 d7_1 x_w_running_a7_0_0 x_w_rootDelayMs_a7_0_0) + (1 : Int32)) from if_pos hj7_16)] at kt
          show Steps p.tables e below (Tn7_14.setTop (mkF m 34 #[.val (.ref a7_0), .val (.double d7_1), .second, .val (.int (own_j7_1 d7_1 x_w_running_a7_0_0 x_w_rootDelayMs_a7_0_0)), .val (.int (1 : Int32))] [(.int (cmpValue (FP.dcmp x_w_rootDelayMs_a7_0_1 d7_1) .l))])) _
          refine XS.ifNo Xn7_14.here hx rfl (hb hby own_d7_34) rfl (XT.i0_le_f hj7_16) ?_
          show Steps p.tables e below (Tn7_14.setTop (mkF m 37 #[.val (.ref a7_0), .val (.double d7_1), .second, .val (.int (own_j7_1 d7_1 x_w_running_a7_0_0 x_w_rootDelayMs_a7_0_0)), .val (.int (1 : Int32))] [])) _
          refine XS.iinc Xn7_14.here hx rfl (hb hby own_d7_37) rfl (l' := #[.val (.ref a7_0), .val (.double d7_1), .second, .val (.int ((own_j7_1 d7_1 x_w_running_a7_0_0 x_w_rootDelayMs_a7_0_0) + (1 : Int32))), .val (.int (1 : Int32))]) rfl ?_
          exact kt
        · refine ⟨_, _, Xn7_14, Nj7_5, en7_14, fun target kt => ?_⟩
          rw [(show (own_j7_2 d7_1 x_w_running_a7_0_0 x_w_rootDelayMs_a7_0_0 x_w_rootDelayMs_a7_0_1) = (own_j7_1 d7_1 x_w_running_a7_0_0 x_w_rootDelayMs_a7_0_0) from if_neg hj7_16)] at kt
          show Steps p.tables e below (Tn7_14.setTop (mkF m 34 #[.val (.ref a7_0), .val (.double d7_1), .second, .val (.int (own_j7_1 d7_1 x_w_running_a7_0_0 x_w_rootDelayMs_a7_0_0)), .val (.int (1 : Int32))] [(.int (cmpValue (FP.dcmp x_w_rootDelayMs_a7_0_1 d7_1) .l))])) _
          refine XS.ifYes Xn7_14.here hx rfl (pc0 := 34) (pc' := 40) rfl (hb hby own_d7_34) rfl (XT.i0_le_t hj7_16) (by decide) (by decide) ?_
          exact kt
      refine ⟨_, _, Xj7_16, Nj7_16, ej7_16, fun target kt => ?_⟩
      rw [(show (own_j7_3 d7_1 x_w_running_a7_0_0 x_w_running_a7_0_1 x_w_rootDelayMs_a7_0_0 x_w_rootDelayMs_a7_0_1) = (own_j7_2 d7_1 x_w_running_a7_0_0 x_w_rootDelayMs_a7_0_0 x_w_rootDelayMs_a7_0_1) from if_neg hj7_13)] at kt
      show Steps p.tables e below (Tn7_11.setTop (mkF m 22 #[.val (.ref a7_0), .val (.double d7_1), .second, .val (.int (own_j7_1 d7_1 x_w_running_a7_0_0 x_w_rootDelayMs_a7_0_0)), .val (.int (1 : Int32))] [(.int x_w_running_a7_0_1)])) _
      refine XS.ifNo Xn7_11.here hx rfl (hb hby own_d7_22) rfl (XT.i0_eq_f hj7_13) ?_
      show Steps p.tables e below (Tn7_11.setTop (mkF m 25 #[.val (.ref a7_0), .val (.double d7_1), .second, .val (.int (own_j7_1 d7_1 x_w_running_a7_0_0 x_w_rootDelayMs_a7_0_0)), .val (.int (1 : Int32))] [])) _
      refine XS.aloadN Xn7_11.here hx rfl (hb hby own_d7_25) rfl rfl ?_
      show Steps p.tables e below (Tn7_11.setTop (mkF m 26 #[.val (.ref a7_0), .val (.double d7_1), .second, .val (.int (own_j7_1 d7_1 x_w_running_a7_0_0 x_w_rootDelayMs_a7_0_0)), .val (.int (1 : Int32))] [(.ref a7_0)])) _
      refine stn7_14 _ ?_
      show Steps p.tables e below (Tn7_14.setTop (mkF m 29 #[.val (.ref a7_0), .val (.double d7_1), .second, .val (.int (own_j7_1 d7_1 x_w_running_a7_0_0 x_w_rootDelayMs_a7_0_0)), .val (.int (1 : Int32))] [(.ref w_rootDelayMs_a7_0)])) _
      refine XS.iload Xn7_14.here hx rfl (hb hby own_d7_29) rfl ?_
      show Steps p.tables e below (Tn7_14.setTop (mkF m 31 #[.val (.ref a7_0), .val (.double d7_1), .second, .val (.int (own_j7_1 d7_1 x_w_running_a7_0_0 x_w_rootDelayMs_a7_0_0)), .val (.int (1 : Int32))] [(.int (1 : Int32)), (.ref w_rootDelayMs_a7_0)])) _
      refine Xn7_14.daload hx (j := (1 : Int32)) (v := (.double x_w_rootDelayMs_a7_0_1)) (by rw [en7_14]; exact Aro7_15.1) (State.isArrayOf_alike hZ.alike Aro7_15.2.1) Aro7_15.2.2 hino7_15 hato7_15 (g := (mkF m 31 #[.val (.ref a7_0), .val (.double d7_1), .second, .val (.int (own_j7_1 d7_1 x_w_running_a7_0_0 x_w_rootDelayMs_a7_0_0)), .val (.int (1 : Int32))] [(.int (1 : Int32)), (.ref w_rootDelayMs_a7_0)])) rfl rfl (hb hby own_d7_31) _ ?_
      show Steps p.tables e below (Tn7_14.setTop (mkF m 32 #[.val (.ref a7_0), .val (.double d7_1), .second, .val (.int (own_j7_1 d7_1 x_w_running_a7_0_0 x_w_rootDelayMs_a7_0_0)), .val (.int (1 : Int32))] [(.double x_w_rootDelayMs_a7_0_1)])) _
      refine XS.dloadN Xn7_14.here hx rfl (hb hby own_d7_32) rfl ?_
      show Steps p.tables e below (Tn7_14.setTop (mkF m 33 #[.val (.ref a7_0), .val (.double d7_1), .second, .val (.int (own_j7_1 d7_1 x_w_running_a7_0_0 x_w_rootDelayMs_a7_0_0)), .val (.int (1 : Int32))] [(.double d7_1), (.double x_w_rootDelayMs_a7_0_1)])) _
      refine XS.dcmpS Xn7_14.here hx rfl (hb hby own_d7_33) rfl rfl ?_
      show Steps p.tables e below (Tn7_14.setTop (mkF m 34 #[.val (.ref a7_0), .val (.double d7_1), .second, .val (.int (own_j7_1 d7_1 x_w_running_a7_0_0 x_w_rootDelayMs_a7_0_0)), .val (.int (1 : Int32))] [(.int (cmpValue (FP.dcmp x_w_rootDelayMs_a7_0_1 d7_1) .l))])) _
      refine stj7_16 _ ?_
      exact kt
  obtain ⟨Tn7_17, Xn7_17, en7_17, stn7_17⟩ := getF Xj7_13 hx hZ hown (host := "") (Or.inl (hw _ (List.mem_of_getElem? (i := 31) rfl))) Via.refl ej7_13 F_running_a7_0 (g := (mkF m 8 #[.val (.ref a7_0), .val (.double d7_1), .second, .val (.int (own_j7_3 d7_1 x_w_running_a7_0_0 x_w_running_a7_0_1 x_w_rootDelayMs_a7_0_0 x_w_rootDelayMs_a7_0_1)), .val (.int (2 : Int32))] [(.ref a7_0), (.int (2 : Int32))])) rfl rfl (hb hby own_d7_8)
  have Oo7_18 := V_w_running_a7_0
  obtain ⟨clo7_18, Aro7_18, qo7_18, So7_18, No7_18, Ho7_18, Go7_18⟩ := Oo7_18
  obtain ⟨Tn7_19, Xn7_19, en7_19, stn7_19⟩ := getF Xn7_17 hx hZ hown (host := "") (Or.inl (hw _ (List.mem_of_getElem? (i := 31) rfl))) Via.refl en7_17 F_running_a7_0 (g := (mkF m 16 #[.val (.ref a7_0), .val (.double d7_1), .second, .val (.int (own_j7_3 d7_1 x_w_running_a7_0_0 x_w_running_a7_0_1 x_w_rootDelayMs_a7_0_0 x_w_rootDelayMs_a7_0_1)), .val (.int (2 : Int32))] [(.ref a7_0)])) rfl rfl (hb hby own_d7_16)
  have Oo7_20 := V_w_running_a7_0
  obtain ⟨clo7_20, Aro7_20, qo7_20, So7_20, No7_20, Ho7_20, Go7_20⟩ := Oo7_20
  have hino7_20 : ¬ ((2 : Int32) < 0 ∨ clo7_20.slots.size ≤ ((2 : Int32)).toNatClampNeg) := inb_of So7_20 ⟨by decide, by decide⟩
  have hato7_20 : clo7_20.slots[((2 : Int32)).toNatClampNeg]? = some (.int x_w_running_a7_0_2) := Ho7_20.at hino7_20 rfl
  obtain ⟨Tj7_21, lj7_21, Xj7_21, Nj7_21, ej7_21, stj7_21⟩ : ∃ (T' : State) (l' : List Loc), Stand p l e ({ frames := 0, cells := 0, slots := 0, locals := 0 } : Room) s m #[(.ref a7_0), (.double d7_1)] below meth c T' l' 0 0 ∧ Fr n0 l' ∧ T'.heap = h0 ∧ ∀ target, Steps p.tables e below (T'.setTop (mkF m 40 #[.val (.ref a7_0), .val (.double d7_1), .second, .val (.int (own_j7_5 d7_1 x_w_running_a7_0_0 x_w_running_a7_0_1 x_w_running_a7_0_2 x_w_rootDelayMs_a7_0_0 x_w_rootDelayMs_a7_0_1 x_w_rootDelayMs_a7_0_2)), .val (.int (2 : Int32))] [])) target → Steps p.tables e below (Tn7_19.setTop (mkF m 22 #[.val (.ref a7_0), .val (.double d7_1), .second, .val (.int (own_j7_3 d7_1 x_w_running_a7_0_0 x_w_running_a7_0_1 x_w_rootDelayMs_a7_0_0 x_w_rootDelayMs_a7_0_1)), .val (.int (2 : Int32))] [(.int x_w_running_a7_0_2)])) target := by
    by_cases hj7_21 : x_w_running_a7_0_2 = (0 : Int32)
    · refine ⟨_, _, Xn7_19, Nj7_13, en7_19, fun target kt => ?_⟩
      rw [(show (own_j7_5 d7_1 x_w_running_a7_0_0 x_w_running_a7_0_1 x_w_running_a7_0_2 x_w_rootDelayMs_a7_0_0 x_w_rootDelayMs_a7_0_1 x_w_rootDelayMs_a7_0_2) = (own_j7_3 d7_1 x_w_running_a7_0_0 x_w_running_a7_0_1 x_w_rootDelayMs_a7_0_0 x_w_rootDelayMs_a7_0_1) from if_pos hj7_21)] at kt
      show Steps p.tables e below (Tn7_19.setTop (mkF m 22 #[.val (.ref a7_0), .val (.double d7_1), .second, .val (.int (own_j7_3 d7_1 x_w_running_a7_0_0 x_w_running_a7_0_1 x_w_rootDelayMs_a7_0_0 x_w_rootDelayMs_a7_0_1)), .val (.int (2 : Int32))] [(.int x_w_running_a7_0_2)])) _
      refine XS.ifYes Xn7_19.here hx rfl (pc0 := 22) (pc' := 40) rfl (hb hby own_d7_22) rfl (XT.i0_eq_t hj7_21) (by decide) (by decide) ?_
      exact kt
    · obtain ⟨Tn7_22, Xn7_22, en7_22, stn7_22⟩ := getF Xn7_19 hx hZ hown (host := "") (Or.inl (hw _ (List.mem_of_getElem? (i := 29) rfl))) Via.refl en7_19 F_rootDelayMs_a7_0 (g := (mkF m 26 #[.val (.ref a7_0), .val (.double d7_1), .second, .val (.int (own_j7_3 d7_1 x_w_running_a7_0_0 x_w_running_a7_0_1 x_w_rootDelayMs_a7_0_0 x_w_rootDelayMs_a7_0_1)), .val (.int (2 : Int32))] [(.ref a7_0)])) rfl rfl (hb hby own_d7_26)
      have Oo7_23 := V_w_rootDelayMs_a7_0
      obtain ⟨clo7_23, Aro7_23, qo7_23, So7_23, No7_23, Ho7_23, Go7_23⟩ := Oo7_23
      have hino7_23 : ¬ ((2 : Int32) < 0 ∨ clo7_23.slots.size ≤ ((2 : Int32)).toNatClampNeg) := inb_of So7_23 ⟨by decide, by decide⟩
      have hato7_23 : clo7_23.slots[((2 : Int32)).toNatClampNeg]? = some (.double x_w_rootDelayMs_a7_0_2) := Ho7_23.at hino7_23 rfl
      obtain ⟨Tj7_24, lj7_24, Xj7_24, Nj7_24, ej7_24, stj7_24⟩ : ∃ (T' : State) (l' : List Loc), Stand p l e ({ frames := 0, cells := 0, slots := 0, locals := 0 } : Room) s m #[(.ref a7_0), (.double d7_1)] below meth c T' l' 0 0 ∧ Fr n0 l' ∧ T'.heap = h0 ∧ ∀ target, Steps p.tables e below (T'.setTop (mkF m 40 #[.val (.ref a7_0), .val (.double d7_1), .second, .val (.int (own_j7_4 d7_1 x_w_running_a7_0_0 x_w_running_a7_0_1 x_w_rootDelayMs_a7_0_0 x_w_rootDelayMs_a7_0_1 x_w_rootDelayMs_a7_0_2)), .val (.int (2 : Int32))] [])) target → Steps p.tables e below (Tn7_22.setTop (mkF m 34 #[.val (.ref a7_0), .val (.double d7_1), .second, .val (.int (own_j7_3 d7_1 x_w_running_a7_0_0 x_w_running_a7_0_1 x_w_rootDelayMs_a7_0_0 x_w_rootDelayMs_a7_0_1)), .val (.int (2 : Int32))] [(.int (cmpValue (FP.dcmp x_w_rootDelayMs_a7_0_2 d7_1) .l))])) target := by
        by_cases hj7_24 : (0 : Int32) < (cmpValue (FP.dcmp x_w_rootDelayMs_a7_0_2 d7_1) .l)
        · refine ⟨_, _, Xn7_22, Nj7_13, en7_22, fun target kt => ?_⟩
          rw [(show (own_j7_4 d7_1 x_w_running_a7_0_0 x_w_running_a7_0_1 x_w_rootDelayMs_a7_0_0 x_w_rootDelayMs_a7_0_1 x_w_rootDelayMs_a7_0_2) = ((own_j7_3 d7_1 x_w_running_a7_0_0 x_w_running_a7_0_1 x_w_rootDelayMs_a7_0_0 x_w_rootDelayMs_a7_0_1) + (1 : Int32)) from if_pos hj7_24)] at kt
          show Steps p.tables e below (Tn7_22.setTop (mkF m 34 #[.val (.ref a7_0), .val (.double d7_1), .second, .val (.int (own_j7_3 d7_1 x_w_running_a7_0_0 x_w_running_a7_0_1 x_w_rootDelayMs_a7_0_0 x_w_rootDelayMs_a7_0_1)), .val (.int (2 : Int32))] [(.int (cmpValue (FP.dcmp x_w_rootDelayMs_a7_0_2 d7_1) .l))])) _
          refine XS.ifNo Xn7_22.here hx rfl (hb hby own_d7_34) rfl (XT.i0_le_f hj7_24) ?_
          show Steps p.tables e below (Tn7_22.setTop (mkF m 37 #[.val (.ref a7_0), .val (.double d7_1), .second, .val (.int (own_j7_3 d7_1 x_w_running_a7_0_0 x_w_running_a7_0_1 x_w_rootDelayMs_a7_0_0 x_w_rootDelayMs_a7_0_1)), .val (.int (2 : Int32))] [])) _
          refine XS.iinc Xn7_22.here hx rfl (hb hby own_d7_37) rfl (l' := #[.val (.ref a7_0), .val (.double d7_1), .second, .val (.int ((own_j7_3 d7_1 x_w_running_a7_0_0 x_w_running_a7_0_1 x_w_rootDelayMs_a7_0_0 x_w_rootDelayMs_a7_0_1) + (1 : Int32))), .val (.int (2 : Int32))]) rfl ?_
          exact kt
        · refine ⟨_, _, Xn7_22, Nj7_13, en7_22, fun target kt => ?_⟩
          rw [(show (own_j7_4 d7_1 x_w_running_a7_0_0 x_w_running_a7_0_1 x_w_rootDelayMs_a7_0_0 x_w_rootDelayMs_a7_0_1 x_w_rootDelayMs_a7_0_2) = (own_j7_3 d7_1 x_w_running_a7_0_0 x_w_running_a7_0_1 x_w_rootDelayMs_a7_0_0 x_w_rootDelayMs_a7_0_1) from if_neg hj7_24)] at kt
          show Steps p.tables e below (Tn7_22.setTop (mkF m 34 #[.val (.ref a7_0), .val (.double d7_1), .second, .val (.int (own_j7_3 d7_1 x_w_running_a7_0_0 x_w_running_a7_0_1 x_w_rootDelayMs_a7_0_0 x_w_rootDelayMs_a7_0_1)), .val (.int (2 : Int32))] [(.int (cmpValue (FP.dcmp x_w_rootDelayMs_a7_0_2 d7_1) .l))])) _
          refine XS.ifYes Xn7_22.here hx rfl (pc0 := 34) (pc' := 40) rfl (hb hby own_d7_34) rfl (XT.i0_le_t hj7_24) (by decide) (by decide) ?_
          exact kt
      refine ⟨_, _, Xj7_24, Nj7_24, ej7_24, fun target kt => ?_⟩
      rw [(show (own_j7_5 d7_1 x_w_running_a7_0_0 x_w_running_a7_0_1 x_w_running_a7_0_2 x_w_rootDelayMs_a7_0_0 x_w_rootDelayMs_a7_0_1 x_w_rootDelayMs_a7_0_2) = (own_j7_4 d7_1 x_w_running_a7_0_0 x_w_running_a7_0_1 x_w_rootDelayMs_a7_0_0 x_w_rootDelayMs_a7_0_1 x_w_rootDelayMs_a7_0_2) from if_neg hj7_21)] at kt
      show Steps p.tables e below (Tn7_19.setTop (mkF m 22 #[.val (.ref a7_0), .val (.double d7_1), .second, .val (.int (own_j7_3 d7_1 x_w_running_a7_0_0 x_w_running_a7_0_1 x_w_rootDelayMs_a7_0_0 x_w_rootDelayMs_a7_0_1)), .val (.int (2 : Int32))] [(.int x_w_running_a7_0_2)])) _
      refine XS.ifNo Xn7_19.here hx rfl (hb hby own_d7_22) rfl (XT.i0_eq_f hj7_21) ?_
      show Steps p.tables e below (Tn7_19.setTop (mkF m 25 #[.val (.ref a7_0), .val (.double d7_1), .second, .val (.int (own_j7_3 d7_1 x_w_running_a7_0_0 x_w_running_a7_0_1 x_w_rootDelayMs_a7_0_0 x_w_rootDelayMs_a7_0_1)), .val (.int (2 : Int32))] [])) _
      refine XS.aloadN Xn7_19.here hx rfl (hb hby own_d7_25) rfl rfl ?_
      show Steps p.tables e below (Tn7_19.setTop (mkF m 26 #[.val (.ref a7_0), .val (.double d7_1), .second, .val (.int (own_j7_3 d7_1 x_w_running_a7_0_0 x_w_running_a7_0_1 x_w_rootDelayMs_a7_0_0 x_w_rootDelayMs_a7_0_1)), .val (.int (2 : Int32))] [(.ref a7_0)])) _
      refine stn7_22 _ ?_
      show Steps p.tables e below (Tn7_22.setTop (mkF m 29 #[.val (.ref a7_0), .val (.double d7_1), .second, .val (.int (own_j7_3 d7_1 x_w_running_a7_0_0 x_w_running_a7_0_1 x_w_rootDelayMs_a7_0_0 x_w_rootDelayMs_a7_0_1)), .val (.int (2 : Int32))] [(.ref w_rootDelayMs_a7_0)])) _
      refine XS.iload Xn7_22.here hx rfl (hb hby own_d7_29) rfl ?_
      show Steps p.tables e below (Tn7_22.setTop (mkF m 31 #[.val (.ref a7_0), .val (.double d7_1), .second, .val (.int (own_j7_3 d7_1 x_w_running_a7_0_0 x_w_running_a7_0_1 x_w_rootDelayMs_a7_0_0 x_w_rootDelayMs_a7_0_1)), .val (.int (2 : Int32))] [(.int (2 : Int32)), (.ref w_rootDelayMs_a7_0)])) _
      refine Xn7_22.daload hx (j := (2 : Int32)) (v := (.double x_w_rootDelayMs_a7_0_2)) (by rw [en7_22]; exact Aro7_23.1) (State.isArrayOf_alike hZ.alike Aro7_23.2.1) Aro7_23.2.2 hino7_23 hato7_23 (g := (mkF m 31 #[.val (.ref a7_0), .val (.double d7_1), .second, .val (.int (own_j7_3 d7_1 x_w_running_a7_0_0 x_w_running_a7_0_1 x_w_rootDelayMs_a7_0_0 x_w_rootDelayMs_a7_0_1)), .val (.int (2 : Int32))] [(.int (2 : Int32)), (.ref w_rootDelayMs_a7_0)])) rfl rfl (hb hby own_d7_31) _ ?_
      show Steps p.tables e below (Tn7_22.setTop (mkF m 32 #[.val (.ref a7_0), .val (.double d7_1), .second, .val (.int (own_j7_3 d7_1 x_w_running_a7_0_0 x_w_running_a7_0_1 x_w_rootDelayMs_a7_0_0 x_w_rootDelayMs_a7_0_1)), .val (.int (2 : Int32))] [(.double x_w_rootDelayMs_a7_0_2)])) _
      refine XS.dloadN Xn7_22.here hx rfl (hb hby own_d7_32) rfl ?_
      show Steps p.tables e below (Tn7_22.setTop (mkF m 33 #[.val (.ref a7_0), .val (.double d7_1), .second, .val (.int (own_j7_3 d7_1 x_w_running_a7_0_0 x_w_running_a7_0_1 x_w_rootDelayMs_a7_0_0 x_w_rootDelayMs_a7_0_1)), .val (.int (2 : Int32))] [(.double d7_1), (.double x_w_rootDelayMs_a7_0_2)])) _
      refine XS.dcmpS Xn7_22.here hx rfl (hb hby own_d7_33) rfl rfl ?_
      show Steps p.tables e below (Tn7_22.setTop (mkF m 34 #[.val (.ref a7_0), .val (.double d7_1), .second, .val (.int (own_j7_3 d7_1 x_w_running_a7_0_0 x_w_running_a7_0_1 x_w_rootDelayMs_a7_0_0 x_w_rootDelayMs_a7_0_1)), .val (.int (2 : Int32))] [(.int (cmpValue (FP.dcmp x_w_rootDelayMs_a7_0_2 d7_1) .l))])) _
      refine stj7_24 _ ?_
      exact kt
  obtain ⟨Tn7_25, Xn7_25, en7_25, stn7_25⟩ := getF Xj7_21 hx hZ hown (host := "") (Or.inl (hw _ (List.mem_of_getElem? (i := 31) rfl))) Via.refl ej7_21 F_running_a7_0 (g := (mkF m 8 #[.val (.ref a7_0), .val (.double d7_1), .second, .val (.int (own_j7_5 d7_1 x_w_running_a7_0_0 x_w_running_a7_0_1 x_w_running_a7_0_2 x_w_rootDelayMs_a7_0_0 x_w_rootDelayMs_a7_0_1 x_w_rootDelayMs_a7_0_2)), .val (.int (3 : Int32))] [(.ref a7_0), (.int (3 : Int32))])) rfl rfl (hb hby own_d7_8)
  have Oo7_26 := V_w_running_a7_0
  obtain ⟨clo7_26, Aro7_26, qo7_26, So7_26, No7_26, Ho7_26, Go7_26⟩ := Oo7_26
  obtain ⟨Tn7_27, Xn7_27, en7_27, stn7_27⟩ := getF Xn7_25 hx hZ hown (host := "") (Or.inl (hw _ (List.mem_of_getElem? (i := 31) rfl))) Via.refl en7_25 F_running_a7_0 (g := (mkF m 16 #[.val (.ref a7_0), .val (.double d7_1), .second, .val (.int (own_j7_5 d7_1 x_w_running_a7_0_0 x_w_running_a7_0_1 x_w_running_a7_0_2 x_w_rootDelayMs_a7_0_0 x_w_rootDelayMs_a7_0_1 x_w_rootDelayMs_a7_0_2)), .val (.int (3 : Int32))] [(.ref a7_0)])) rfl rfl (hb hby own_d7_16)
  have Oo7_28 := V_w_running_a7_0
  obtain ⟨clo7_28, Aro7_28, qo7_28, So7_28, No7_28, Ho7_28, Go7_28⟩ := Oo7_28
  have hino7_28 : ¬ ((3 : Int32) < 0 ∨ clo7_28.slots.size ≤ ((3 : Int32)).toNatClampNeg) := inb_of So7_28 ⟨by decide, by decide⟩
  have hato7_28 : clo7_28.slots[((3 : Int32)).toNatClampNeg]? = some (.int x_w_running_a7_0_3) := Ho7_28.at hino7_28 rfl
  obtain ⟨Tj7_29, lj7_29, Xj7_29, Nj7_29, ej7_29, stj7_29⟩ : ∃ (T' : State) (l' : List Loc), Stand p l e ({ frames := 0, cells := 0, slots := 0, locals := 0 } : Room) s m #[(.ref a7_0), (.double d7_1)] below meth c T' l' 0 0 ∧ Fr n0 l' ∧ T'.heap = h0 ∧ ∀ target, Steps p.tables e below (T'.setTop (mkF m 40 #[.val (.ref a7_0), .val (.double d7_1), .second, .val (.int (own_j7_7 d7_1 x_w_running_a7_0_0 x_w_running_a7_0_1 x_w_running_a7_0_2 x_w_running_a7_0_3 x_w_rootDelayMs_a7_0_0 x_w_rootDelayMs_a7_0_1 x_w_rootDelayMs_a7_0_2 x_w_rootDelayMs_a7_0_3)), .val (.int (3 : Int32))] [])) target → Steps p.tables e below (Tn7_27.setTop (mkF m 22 #[.val (.ref a7_0), .val (.double d7_1), .second, .val (.int (own_j7_5 d7_1 x_w_running_a7_0_0 x_w_running_a7_0_1 x_w_running_a7_0_2 x_w_rootDelayMs_a7_0_0 x_w_rootDelayMs_a7_0_1 x_w_rootDelayMs_a7_0_2)), .val (.int (3 : Int32))] [(.int x_w_running_a7_0_3)])) target := by
    by_cases hj7_29 : x_w_running_a7_0_3 = (0 : Int32)
    · refine ⟨_, _, Xn7_27, Nj7_21, en7_27, fun target kt => ?_⟩
      rw [(show (own_j7_7 d7_1 x_w_running_a7_0_0 x_w_running_a7_0_1 x_w_running_a7_0_2 x_w_running_a7_0_3 x_w_rootDelayMs_a7_0_0 x_w_rootDelayMs_a7_0_1 x_w_rootDelayMs_a7_0_2 x_w_rootDelayMs_a7_0_3) = (own_j7_5 d7_1 x_w_running_a7_0_0 x_w_running_a7_0_1 x_w_running_a7_0_2 x_w_rootDelayMs_a7_0_0 x_w_rootDelayMs_a7_0_1 x_w_rootDelayMs_a7_0_2) from if_pos hj7_29)] at kt
      show Steps p.tables e below (Tn7_27.setTop (mkF m 22 #[.val (.ref a7_0), .val (.double d7_1), .second, .val (.int (own_j7_5 d7_1 x_w_running_a7_0_0 x_w_running_a7_0_1 x_w_running_a7_0_2 x_w_rootDelayMs_a7_0_0 x_w_rootDelayMs_a7_0_1 x_w_rootDelayMs_a7_0_2)), .val (.int (3 : Int32))] [(.int x_w_running_a7_0_3)])) _
      refine XS.ifYes Xn7_27.here hx rfl (pc0 := 22) (pc' := 40) rfl (hb hby own_d7_22) rfl (XT.i0_eq_t hj7_29) (by decide) (by decide) ?_
      exact kt
    · obtain ⟨Tn7_30, Xn7_30, en7_30, stn7_30⟩ := getF Xn7_27 hx hZ hown (host := "") (Or.inl (hw _ (List.mem_of_getElem? (i := 29) rfl))) Via.refl en7_27 F_rootDelayMs_a7_0 (g := (mkF m 26 #[.val (.ref a7_0), .val (.double d7_1), .second, .val (.int (own_j7_5 d7_1 x_w_running_a7_0_0 x_w_running_a7_0_1 x_w_running_a7_0_2 x_w_rootDelayMs_a7_0_0 x_w_rootDelayMs_a7_0_1 x_w_rootDelayMs_a7_0_2)), .val (.int (3 : Int32))] [(.ref a7_0)])) rfl rfl (hb hby own_d7_26)
      have Oo7_31 := V_w_rootDelayMs_a7_0
      obtain ⟨clo7_31, Aro7_31, qo7_31, So7_31, No7_31, Ho7_31, Go7_31⟩ := Oo7_31
      have hino7_31 : ¬ ((3 : Int32) < 0 ∨ clo7_31.slots.size ≤ ((3 : Int32)).toNatClampNeg) := inb_of So7_31 ⟨by decide, by decide⟩
      have hato7_31 : clo7_31.slots[((3 : Int32)).toNatClampNeg]? = some (.double x_w_rootDelayMs_a7_0_3) := Ho7_31.at hino7_31 rfl
      obtain ⟨Tj7_32, lj7_32, Xj7_32, Nj7_32, ej7_32, stj7_32⟩ : ∃ (T' : State) (l' : List Loc), Stand p l e ({ frames := 0, cells := 0, slots := 0, locals := 0 } : Room) s m #[(.ref a7_0), (.double d7_1)] below meth c T' l' 0 0 ∧ Fr n0 l' ∧ T'.heap = h0 ∧ ∀ target, Steps p.tables e below (T'.setTop (mkF m 40 #[.val (.ref a7_0), .val (.double d7_1), .second, .val (.int (own_j7_6 d7_1 x_w_running_a7_0_0 x_w_running_a7_0_1 x_w_running_a7_0_2 x_w_rootDelayMs_a7_0_0 x_w_rootDelayMs_a7_0_1 x_w_rootDelayMs_a7_0_2 x_w_rootDelayMs_a7_0_3)), .val (.int (3 : Int32))] [])) target → Steps p.tables e below (Tn7_30.setTop (mkF m 34 #[.val (.ref a7_0), .val (.double d7_1), .second, .val (.int (own_j7_5 d7_1 x_w_running_a7_0_0 x_w_running_a7_0_1 x_w_running_a7_0_2 x_w_rootDelayMs_a7_0_0 x_w_rootDelayMs_a7_0_1 x_w_rootDelayMs_a7_0_2)), .val (.int (3 : Int32))] [(.int (cmpValue (FP.dcmp x_w_rootDelayMs_a7_0_3 d7_1) .l))])) target := by
        by_cases hj7_32 : (0 : Int32) < (cmpValue (FP.dcmp x_w_rootDelayMs_a7_0_3 d7_1) .l)
        · refine ⟨_, _, Xn7_30, Nj7_21, en7_30, fun target kt => ?_⟩
          rw [(show (own_j7_6 d7_1 x_w_running_a7_0_0 x_w_running_a7_0_1 x_w_running_a7_0_2 x_w_rootDelayMs_a7_0_0 x_w_rootDelayMs_a7_0_1 x_w_rootDelayMs_a7_0_2 x_w_rootDelayMs_a7_0_3) = ((own_j7_5 d7_1 x_w_running_a7_0_0 x_w_running_a7_0_1 x_w_running_a7_0_2 x_w_rootDelayMs_a7_0_0 x_w_rootDelayMs_a7_0_1 x_w_rootDelayMs_a7_0_2) + (1 : Int32)) from if_pos hj7_32)] at kt
          show Steps p.tables e below (Tn7_30.setTop (mkF m 34 #[.val (.ref a7_0), .val (.double d7_1), .second, .val (.int (own_j7_5 d7_1 x_w_running_a7_0_0 x_w_running_a7_0_1 x_w_running_a7_0_2 x_w_rootDelayMs_a7_0_0 x_w_rootDelayMs_a7_0_1 x_w_rootDelayMs_a7_0_2)), .val (.int (3 : Int32))] [(.int (cmpValue (FP.dcmp x_w_rootDelayMs_a7_0_3 d7_1) .l))])) _
          refine XS.ifNo Xn7_30.here hx rfl (hb hby own_d7_34) rfl (XT.i0_le_f hj7_32) ?_
          show Steps p.tables e below (Tn7_30.setTop (mkF m 37 #[.val (.ref a7_0), .val (.double d7_1), .second, .val (.int (own_j7_5 d7_1 x_w_running_a7_0_0 x_w_running_a7_0_1 x_w_running_a7_0_2 x_w_rootDelayMs_a7_0_0 x_w_rootDelayMs_a7_0_1 x_w_rootDelayMs_a7_0_2)), .val (.int (3 : Int32))] [])) _
          refine XS.iinc Xn7_30.here hx rfl (hb hby own_d7_37) rfl (l' := #[.val (.ref a7_0), .val (.double d7_1), .second, .val (.int ((own_j7_5 d7_1 x_w_running_a7_0_0 x_w_running_a7_0_1 x_w_running_a7_0_2 x_w_rootDelayMs_a7_0_0 x_w_rootDelayMs_a7_0_1 x_w_rootDelayMs_a7_0_2) + (1 : Int32))), .val (.int (3 : Int32))]) rfl ?_
          exact kt
        · refine ⟨_, _, Xn7_30, Nj7_21, en7_30, fun target kt => ?_⟩
          rw [(show (own_j7_6 d7_1 x_w_running_a7_0_0 x_w_running_a7_0_1 x_w_running_a7_0_2 x_w_rootDelayMs_a7_0_0 x_w_rootDelayMs_a7_0_1 x_w_rootDelayMs_a7_0_2 x_w_rootDelayMs_a7_0_3) = (own_j7_5 d7_1 x_w_running_a7_0_0 x_w_running_a7_0_1 x_w_running_a7_0_2 x_w_rootDelayMs_a7_0_0 x_w_rootDelayMs_a7_0_1 x_w_rootDelayMs_a7_0_2) from if_neg hj7_32)] at kt
          show Steps p.tables e below (Tn7_30.setTop (mkF m 34 #[.val (.ref a7_0), .val (.double d7_1), .second, .val (.int (own_j7_5 d7_1 x_w_running_a7_0_0 x_w_running_a7_0_1 x_w_running_a7_0_2 x_w_rootDelayMs_a7_0_0 x_w_rootDelayMs_a7_0_1 x_w_rootDelayMs_a7_0_2)), .val (.int (3 : Int32))] [(.int (cmpValue (FP.dcmp x_w_rootDelayMs_a7_0_3 d7_1) .l))])) _
          refine XS.ifYes Xn7_30.here hx rfl (pc0 := 34) (pc' := 40) rfl (hb hby own_d7_34) rfl (XT.i0_le_t hj7_32) (by decide) (by decide) ?_
          exact kt
      refine ⟨_, _, Xj7_32, Nj7_32, ej7_32, fun target kt => ?_⟩
      rw [(show (own_j7_7 d7_1 x_w_running_a7_0_0 x_w_running_a7_0_1 x_w_running_a7_0_2 x_w_running_a7_0_3 x_w_rootDelayMs_a7_0_0 x_w_rootDelayMs_a7_0_1 x_w_rootDelayMs_a7_0_2 x_w_rootDelayMs_a7_0_3) = (own_j7_6 d7_1 x_w_running_a7_0_0 x_w_running_a7_0_1 x_w_running_a7_0_2 x_w_rootDelayMs_a7_0_0 x_w_rootDelayMs_a7_0_1 x_w_rootDelayMs_a7_0_2 x_w_rootDelayMs_a7_0_3) from if_neg hj7_29)] at kt
      show Steps p.tables e below (Tn7_27.setTop (mkF m 22 #[.val (.ref a7_0), .val (.double d7_1), .second, .val (.int (own_j7_5 d7_1 x_w_running_a7_0_0 x_w_running_a7_0_1 x_w_running_a7_0_2 x_w_rootDelayMs_a7_0_0 x_w_rootDelayMs_a7_0_1 x_w_rootDelayMs_a7_0_2)), .val (.int (3 : Int32))] [(.int x_w_running_a7_0_3)])) _
      refine XS.ifNo Xn7_27.here hx rfl (hb hby own_d7_22) rfl (XT.i0_eq_f hj7_29) ?_
      show Steps p.tables e below (Tn7_27.setTop (mkF m 25 #[.val (.ref a7_0), .val (.double d7_1), .second, .val (.int (own_j7_5 d7_1 x_w_running_a7_0_0 x_w_running_a7_0_1 x_w_running_a7_0_2 x_w_rootDelayMs_a7_0_0 x_w_rootDelayMs_a7_0_1 x_w_rootDelayMs_a7_0_2)), .val (.int (3 : Int32))] [])) _
      refine XS.aloadN Xn7_27.here hx rfl (hb hby own_d7_25) rfl rfl ?_
      show Steps p.tables e below (Tn7_27.setTop (mkF m 26 #[.val (.ref a7_0), .val (.double d7_1), .second, .val (.int (own_j7_5 d7_1 x_w_running_a7_0_0 x_w_running_a7_0_1 x_w_running_a7_0_2 x_w_rootDelayMs_a7_0_0 x_w_rootDelayMs_a7_0_1 x_w_rootDelayMs_a7_0_2)), .val (.int (3 : Int32))] [(.ref a7_0)])) _
      refine stn7_30 _ ?_
      show Steps p.tables e below (Tn7_30.setTop (mkF m 29 #[.val (.ref a7_0), .val (.double d7_1), .second, .val (.int (own_j7_5 d7_1 x_w_running_a7_0_0 x_w_running_a7_0_1 x_w_running_a7_0_2 x_w_rootDelayMs_a7_0_0 x_w_rootDelayMs_a7_0_1 x_w_rootDelayMs_a7_0_2)), .val (.int (3 : Int32))] [(.ref w_rootDelayMs_a7_0)])) _
      refine XS.iload Xn7_30.here hx rfl (hb hby own_d7_29) rfl ?_
      show Steps p.tables e below (Tn7_30.setTop (mkF m 31 #[.val (.ref a7_0), .val (.double d7_1), .second, .val (.int (own_j7_5 d7_1 x_w_running_a7_0_0 x_w_running_a7_0_1 x_w_running_a7_0_2 x_w_rootDelayMs_a7_0_0 x_w_rootDelayMs_a7_0_1 x_w_rootDelayMs_a7_0_2)), .val (.int (3 : Int32))] [(.int (3 : Int32)), (.ref w_rootDelayMs_a7_0)])) _
      refine Xn7_30.daload hx (j := (3 : Int32)) (v := (.double x_w_rootDelayMs_a7_0_3)) (by rw [en7_30]; exact Aro7_31.1) (State.isArrayOf_alike hZ.alike Aro7_31.2.1) Aro7_31.2.2 hino7_31 hato7_31 (g := (mkF m 31 #[.val (.ref a7_0), .val (.double d7_1), .second, .val (.int (own_j7_5 d7_1 x_w_running_a7_0_0 x_w_running_a7_0_1 x_w_running_a7_0_2 x_w_rootDelayMs_a7_0_0 x_w_rootDelayMs_a7_0_1 x_w_rootDelayMs_a7_0_2)), .val (.int (3 : Int32))] [(.int (3 : Int32)), (.ref w_rootDelayMs_a7_0)])) rfl rfl (hb hby own_d7_31) _ ?_
      show Steps p.tables e below (Tn7_30.setTop (mkF m 32 #[.val (.ref a7_0), .val (.double d7_1), .second, .val (.int (own_j7_5 d7_1 x_w_running_a7_0_0 x_w_running_a7_0_1 x_w_running_a7_0_2 x_w_rootDelayMs_a7_0_0 x_w_rootDelayMs_a7_0_1 x_w_rootDelayMs_a7_0_2)), .val (.int (3 : Int32))] [(.double x_w_rootDelayMs_a7_0_3)])) _
      refine XS.dloadN Xn7_30.here hx rfl (hb hby own_d7_32) rfl ?_
      show Steps p.tables e below (Tn7_30.setTop (mkF m 33 #[.val (.ref a7_0), .val (.double d7_1), .second, .val (.int (own_j7_5 d7_1 x_w_running_a7_0_0 x_w_running_a7_0_1 x_w_running_a7_0_2 x_w_rootDelayMs_a7_0_0 x_w_rootDelayMs_a7_0_1 x_w_rootDelayMs_a7_0_2)), .val (.int (3 : Int32))] [(.double d7_1), (.double x_w_rootDelayMs_a7_0_3)])) _
      refine XS.dcmpS Xn7_30.here hx rfl (hb hby own_d7_33) rfl rfl ?_
      show Steps p.tables e below (Tn7_30.setTop (mkF m 34 #[.val (.ref a7_0), .val (.double d7_1), .second, .val (.int (own_j7_5 d7_1 x_w_running_a7_0_0 x_w_running_a7_0_1 x_w_running_a7_0_2 x_w_rootDelayMs_a7_0_0 x_w_rootDelayMs_a7_0_1 x_w_rootDelayMs_a7_0_2)), .val (.int (3 : Int32))] [(.int (cmpValue (FP.dcmp x_w_rootDelayMs_a7_0_3 d7_1) .l))])) _
      refine stj7_32 _ ?_
      exact kt
  obtain ⟨Tn7_33, Xn7_33, en7_33, stn7_33⟩ := getF Xj7_29 hx hZ hown (host := "") (Or.inl (hw _ (List.mem_of_getElem? (i := 31) rfl))) Via.refl ej7_29 F_running_a7_0 (g := (mkF m 8 #[.val (.ref a7_0), .val (.double d7_1), .second, .val (.int (own_j7_7 d7_1 x_w_running_a7_0_0 x_w_running_a7_0_1 x_w_running_a7_0_2 x_w_running_a7_0_3 x_w_rootDelayMs_a7_0_0 x_w_rootDelayMs_a7_0_1 x_w_rootDelayMs_a7_0_2 x_w_rootDelayMs_a7_0_3)), .val (.int (4 : Int32))] [(.ref a7_0), (.int (4 : Int32))])) rfl rfl (hb hby own_d7_8)
  have Oo7_34 := V_w_running_a7_0
  obtain ⟨clo7_34, Aro7_34, qo7_34, So7_34, No7_34, Ho7_34, Go7_34⟩ := Oo7_34
  obtain ⟨fs, hr, hrun, hended, hW, hsame⟩ := Xn7_33.leave (v := some (.int (own_j7_7 d7_1 x_w_running_a7_0_0 x_w_running_a7_0_1 x_w_running_a7_0_2 x_w_running_a7_0_3 x_w_rootDelayMs_a7_0_0 x_w_rootDelayMs_a7_0_1 x_w_rootDelayMs_a7_0_2 x_w_rootDelayMs_a7_0_3))) (fun h => by rw [Bd.returns] at h; cases h)
  refine ⟨_, _, pre0 _ (?_), hrun, hended, _, _, rfl, ?_, ⟨_, rfl⟩, hW, hsame.mono (by decide) (by decide)⟩
  · show Steps p.tables e below (s₁.setTop (mkF m 0 #[.val (.ref a7_0), .val (.double d7_1), .second, .unset, .unset] [])) _
    refine XS.iconst X0.here hx rfl (hb hby own_d7_0) ?_
    show Steps p.tables e below (s₁.setTop (mkF m 1 #[.val (.ref a7_0), .val (.double d7_1), .second, .unset, .unset] [(.int (0 : Int32))])) _
    refine XS.istoreN X0.here hx rfl (hb hby own_d7_1) rfl (l' := #[.val (.ref a7_0), .val (.double d7_1), .second, .val (.int (0 : Int32)), .unset]) rfl ?_
    show Steps p.tables e below (s₁.setTop (mkF m 2 #[.val (.ref a7_0), .val (.double d7_1), .second, .val (.int (0 : Int32)), .unset] [])) _
    refine XS.iconst X0.here hx rfl (hb hby own_d7_2) ?_
    show Steps p.tables e below (s₁.setTop (mkF m 3 #[.val (.ref a7_0), .val (.double d7_1), .second, .val (.int (0 : Int32)), .unset] [(.int (0 : Int32))])) _
    refine XS.istore X0.here hx rfl (hb hby own_d7_3) rfl (l' := #[.val (.ref a7_0), .val (.double d7_1), .second, .val (.int (0 : Int32)), .val (.int (0 : Int32))]) rfl ?_
    show Steps p.tables e below (s₁.setTop (mkF m 5 #[.val (.ref a7_0), .val (.double d7_1), .second, .val (.int (0 : Int32)), .val (.int (0 : Int32))] [])) _
    refine XS.iload X0.here hx rfl (hb hby own_d7_5) rfl ?_
    show Steps p.tables e below (s₁.setTop (mkF m 7 #[.val (.ref a7_0), .val (.double d7_1), .second, .val (.int (0 : Int32)), .val (.int (0 : Int32))] [(.int (0 : Int32))])) _
    refine XS.aloadN X0.here hx rfl (hb hby own_d7_7) rfl rfl ?_
    show Steps p.tables e below (s₁.setTop (mkF m 8 #[.val (.ref a7_0), .val (.double d7_1), .second, .val (.int (0 : Int32)), .val (.int (0 : Int32))] [(.ref a7_0), (.int (0 : Int32))])) _
    refine stn7_1 _ ?_
    show Steps p.tables e below (Tn7_1.setTop (mkF m 11 #[.val (.ref a7_0), .val (.double d7_1), .second, .val (.int (0 : Int32)), .val (.int (0 : Int32))] [(.ref w_running_a7_0), (.int (0 : Int32))])) _
    refine Xn7_1.arraylength hx (by rw [en7_1]; exact Aro7_2.1) (State.isArrayOf_alike hZ.alike Aro7_2.2.1) (g := (mkF m 11 #[.val (.ref a7_0), .val (.double d7_1), .second, .val (.int (0 : Int32)), .val (.int (0 : Int32))] [(.ref w_running_a7_0), (.int (0 : Int32))])) rfl rfl (hb hby own_d7_11) _ ?_
    rw [len_of So7_2 No7_2]
    show Steps p.tables e below (Tn7_1.setTop (mkF m 12 #[.val (.ref a7_0), .val (.double d7_1), .second, .val (.int (0 : Int32)), .val (.int (0 : Int32))] [(.int (4 : Int32)), (.int (0 : Int32))])) _
    refine XS.icmpNo Xn7_1.here hx rfl (hb hby own_d7_12) rfl (XT.ii_ge_f (by decide : (0 : Int32) < (4 : Int32))) ?_
    show Steps p.tables e below (Tn7_1.setTop (mkF m 15 #[.val (.ref a7_0), .val (.double d7_1), .second, .val (.int (0 : Int32)), .val (.int (0 : Int32))] [])) _
    refine XS.aloadN Xn7_1.here hx rfl (hb hby own_d7_15) rfl rfl ?_
    show Steps p.tables e below (Tn7_1.setTop (mkF m 16 #[.val (.ref a7_0), .val (.double d7_1), .second, .val (.int (0 : Int32)), .val (.int (0 : Int32))] [(.ref a7_0)])) _
    refine stn7_3 _ ?_
    show Steps p.tables e below (Tn7_3.setTop (mkF m 19 #[.val (.ref a7_0), .val (.double d7_1), .second, .val (.int (0 : Int32)), .val (.int (0 : Int32))] [(.ref w_running_a7_0)])) _
    refine XS.iload Xn7_3.here hx rfl (hb hby own_d7_19) rfl ?_
    show Steps p.tables e below (Tn7_3.setTop (mkF m 21 #[.val (.ref a7_0), .val (.double d7_1), .second, .val (.int (0 : Int32)), .val (.int (0 : Int32))] [(.int (0 : Int32)), (.ref w_running_a7_0)])) _
    refine Xn7_3.baloadBooleans hx (j := (0 : Int32)) (v := (.int x_w_running_a7_0_0)) (by rw [en7_3]; exact Aro7_4.1) (State.isArrayOf_alike hZ.alike Aro7_4.2.1) Aro7_4.2.2 hino7_4 hato7_4 (g := (mkF m 21 #[.val (.ref a7_0), .val (.double d7_1), .second, .val (.int (0 : Int32)), .val (.int (0 : Int32))] [(.int (0 : Int32)), (.ref w_running_a7_0)])) rfl rfl (hb hby own_d7_21) _ ?_
    show Steps p.tables e below (Tn7_3.setTop (mkF m 22 #[.val (.ref a7_0), .val (.double d7_1), .second, .val (.int (0 : Int32)), .val (.int (0 : Int32))] [(.int x_w_running_a7_0_0)])) _
    refine stj7_5 _ ?_
    show Steps p.tables e below (Tj7_5.setTop (mkF m 40 #[.val (.ref a7_0), .val (.double d7_1), .second, .val (.int (own_j7_1 d7_1 x_w_running_a7_0_0 x_w_rootDelayMs_a7_0_0)), .val (.int (0 : Int32))] [])) _
    refine XS.iinc Xj7_5.here hx rfl (hb hby own_d7_40) rfl (l' := #[.val (.ref a7_0), .val (.double d7_1), .second, .val (.int (own_j7_1 d7_1 x_w_running_a7_0_0 x_w_rootDelayMs_a7_0_0)), .val (.int (1 : Int32))]) rfl ?_
    show Steps p.tables e below (Tj7_5.setTop (mkF m 43 #[.val (.ref a7_0), .val (.double d7_1), .second, .val (.int (own_j7_1 d7_1 x_w_running_a7_0_0 x_w_rootDelayMs_a7_0_0)), .val (.int (1 : Int32))] [])) _
    refine XS.goto Xj7_5.here hx rfl (pc0 := 43) (pc' := 5) rfl (hb hby own_d7_43) (by decide) (by decide) ?_
    show Steps p.tables e below (Tj7_5.setTop (mkF m 5 #[.val (.ref a7_0), .val (.double d7_1), .second, .val (.int (own_j7_1 d7_1 x_w_running_a7_0_0 x_w_rootDelayMs_a7_0_0)), .val (.int (1 : Int32))] [])) _
    refine XS.iload Xj7_5.here hx rfl (hb hby own_d7_5) rfl ?_
    show Steps p.tables e below (Tj7_5.setTop (mkF m 7 #[.val (.ref a7_0), .val (.double d7_1), .second, .val (.int (own_j7_1 d7_1 x_w_running_a7_0_0 x_w_rootDelayMs_a7_0_0)), .val (.int (1 : Int32))] [(.int (1 : Int32))])) _
    refine XS.aloadN Xj7_5.here hx rfl (hb hby own_d7_7) rfl rfl ?_
    show Steps p.tables e below (Tj7_5.setTop (mkF m 8 #[.val (.ref a7_0), .val (.double d7_1), .second, .val (.int (own_j7_1 d7_1 x_w_running_a7_0_0 x_w_rootDelayMs_a7_0_0)), .val (.int (1 : Int32))] [(.ref a7_0), (.int (1 : Int32))])) _
    refine stn7_9 _ ?_
    show Steps p.tables e below (Tn7_9.setTop (mkF m 11 #[.val (.ref a7_0), .val (.double d7_1), .second, .val (.int (own_j7_1 d7_1 x_w_running_a7_0_0 x_w_rootDelayMs_a7_0_0)), .val (.int (1 : Int32))] [(.ref w_running_a7_0), (.int (1 : Int32))])) _
    refine Xn7_9.arraylength hx (by rw [en7_9]; exact Aro7_10.1) (State.isArrayOf_alike hZ.alike Aro7_10.2.1) (g := (mkF m 11 #[.val (.ref a7_0), .val (.double d7_1), .second, .val (.int (own_j7_1 d7_1 x_w_running_a7_0_0 x_w_rootDelayMs_a7_0_0)), .val (.int (1 : Int32))] [(.ref w_running_a7_0), (.int (1 : Int32))])) rfl rfl (hb hby own_d7_11) _ ?_
    rw [len_of So7_10 No7_10]
    show Steps p.tables e below (Tn7_9.setTop (mkF m 12 #[.val (.ref a7_0), .val (.double d7_1), .second, .val (.int (own_j7_1 d7_1 x_w_running_a7_0_0 x_w_rootDelayMs_a7_0_0)), .val (.int (1 : Int32))] [(.int (4 : Int32)), (.int (1 : Int32))])) _
    refine XS.icmpNo Xn7_9.here hx rfl (hb hby own_d7_12) rfl (XT.ii_ge_f (by decide : (1 : Int32) < (4 : Int32))) ?_
    show Steps p.tables e below (Tn7_9.setTop (mkF m 15 #[.val (.ref a7_0), .val (.double d7_1), .second, .val (.int (own_j7_1 d7_1 x_w_running_a7_0_0 x_w_rootDelayMs_a7_0_0)), .val (.int (1 : Int32))] [])) _
    refine XS.aloadN Xn7_9.here hx rfl (hb hby own_d7_15) rfl rfl ?_
    show Steps p.tables e below (Tn7_9.setTop (mkF m 16 #[.val (.ref a7_0), .val (.double d7_1), .second, .val (.int (own_j7_1 d7_1 x_w_running_a7_0_0 x_w_rootDelayMs_a7_0_0)), .val (.int (1 : Int32))] [(.ref a7_0)])) _
    refine stn7_11 _ ?_
    show Steps p.tables e below (Tn7_11.setTop (mkF m 19 #[.val (.ref a7_0), .val (.double d7_1), .second, .val (.int (own_j7_1 d7_1 x_w_running_a7_0_0 x_w_rootDelayMs_a7_0_0)), .val (.int (1 : Int32))] [(.ref w_running_a7_0)])) _
    refine XS.iload Xn7_11.here hx rfl (hb hby own_d7_19) rfl ?_
    show Steps p.tables e below (Tn7_11.setTop (mkF m 21 #[.val (.ref a7_0), .val (.double d7_1), .second, .val (.int (own_j7_1 d7_1 x_w_running_a7_0_0 x_w_rootDelayMs_a7_0_0)), .val (.int (1 : Int32))] [(.int (1 : Int32)), (.ref w_running_a7_0)])) _
    refine Xn7_11.baloadBooleans hx (j := (1 : Int32)) (v := (.int x_w_running_a7_0_1)) (by rw [en7_11]; exact Aro7_12.1) (State.isArrayOf_alike hZ.alike Aro7_12.2.1) Aro7_12.2.2 hino7_12 hato7_12 (g := (mkF m 21 #[.val (.ref a7_0), .val (.double d7_1), .second, .val (.int (own_j7_1 d7_1 x_w_running_a7_0_0 x_w_rootDelayMs_a7_0_0)), .val (.int (1 : Int32))] [(.int (1 : Int32)), (.ref w_running_a7_0)])) rfl rfl (hb hby own_d7_21) _ ?_
    show Steps p.tables e below (Tn7_11.setTop (mkF m 22 #[.val (.ref a7_0), .val (.double d7_1), .second, .val (.int (own_j7_1 d7_1 x_w_running_a7_0_0 x_w_rootDelayMs_a7_0_0)), .val (.int (1 : Int32))] [(.int x_w_running_a7_0_1)])) _
    refine stj7_13 _ ?_
    show Steps p.tables e below (Tj7_13.setTop (mkF m 40 #[.val (.ref a7_0), .val (.double d7_1), .second, .val (.int (own_j7_3 d7_1 x_w_running_a7_0_0 x_w_running_a7_0_1 x_w_rootDelayMs_a7_0_0 x_w_rootDelayMs_a7_0_1)), .val (.int (1 : Int32))] [])) _
    refine XS.iinc Xj7_13.here hx rfl (hb hby own_d7_40) rfl (l' := #[.val (.ref a7_0), .val (.double d7_1), .second, .val (.int (own_j7_3 d7_1 x_w_running_a7_0_0 x_w_running_a7_0_1 x_w_rootDelayMs_a7_0_0 x_w_rootDelayMs_a7_0_1)), .val (.int (2 : Int32))]) rfl ?_
    show Steps p.tables e below (Tj7_13.setTop (mkF m 43 #[.val (.ref a7_0), .val (.double d7_1), .second, .val (.int (own_j7_3 d7_1 x_w_running_a7_0_0 x_w_running_a7_0_1 x_w_rootDelayMs_a7_0_0 x_w_rootDelayMs_a7_0_1)), .val (.int (2 : Int32))] [])) _
    refine XS.goto Xj7_13.here hx rfl (pc0 := 43) (pc' := 5) rfl (hb hby own_d7_43) (by decide) (by decide) ?_
    show Steps p.tables e below (Tj7_13.setTop (mkF m 5 #[.val (.ref a7_0), .val (.double d7_1), .second, .val (.int (own_j7_3 d7_1 x_w_running_a7_0_0 x_w_running_a7_0_1 x_w_rootDelayMs_a7_0_0 x_w_rootDelayMs_a7_0_1)), .val (.int (2 : Int32))] [])) _
    refine XS.iload Xj7_13.here hx rfl (hb hby own_d7_5) rfl ?_
    show Steps p.tables e below (Tj7_13.setTop (mkF m 7 #[.val (.ref a7_0), .val (.double d7_1), .second, .val (.int (own_j7_3 d7_1 x_w_running_a7_0_0 x_w_running_a7_0_1 x_w_rootDelayMs_a7_0_0 x_w_rootDelayMs_a7_0_1)), .val (.int (2 : Int32))] [(.int (2 : Int32))])) _
    refine XS.aloadN Xj7_13.here hx rfl (hb hby own_d7_7) rfl rfl ?_
    show Steps p.tables e below (Tj7_13.setTop (mkF m 8 #[.val (.ref a7_0), .val (.double d7_1), .second, .val (.int (own_j7_3 d7_1 x_w_running_a7_0_0 x_w_running_a7_0_1 x_w_rootDelayMs_a7_0_0 x_w_rootDelayMs_a7_0_1)), .val (.int (2 : Int32))] [(.ref a7_0), (.int (2 : Int32))])) _
    refine stn7_17 _ ?_
    show Steps p.tables e below (Tn7_17.setTop (mkF m 11 #[.val (.ref a7_0), .val (.double d7_1), .second, .val (.int (own_j7_3 d7_1 x_w_running_a7_0_0 x_w_running_a7_0_1 x_w_rootDelayMs_a7_0_0 x_w_rootDelayMs_a7_0_1)), .val (.int (2 : Int32))] [(.ref w_running_a7_0), (.int (2 : Int32))])) _
    refine Xn7_17.arraylength hx (by rw [en7_17]; exact Aro7_18.1) (State.isArrayOf_alike hZ.alike Aro7_18.2.1) (g := (mkF m 11 #[.val (.ref a7_0), .val (.double d7_1), .second, .val (.int (own_j7_3 d7_1 x_w_running_a7_0_0 x_w_running_a7_0_1 x_w_rootDelayMs_a7_0_0 x_w_rootDelayMs_a7_0_1)), .val (.int (2 : Int32))] [(.ref w_running_a7_0), (.int (2 : Int32))])) rfl rfl (hb hby own_d7_11) _ ?_
    rw [len_of So7_18 No7_18]
    show Steps p.tables e below (Tn7_17.setTop (mkF m 12 #[.val (.ref a7_0), .val (.double d7_1), .second, .val (.int (own_j7_3 d7_1 x_w_running_a7_0_0 x_w_running_a7_0_1 x_w_rootDelayMs_a7_0_0 x_w_rootDelayMs_a7_0_1)), .val (.int (2 : Int32))] [(.int (4 : Int32)), (.int (2 : Int32))])) _
    refine XS.icmpNo Xn7_17.here hx rfl (hb hby own_d7_12) rfl (XT.ii_ge_f (by decide : (2 : Int32) < (4 : Int32))) ?_
    show Steps p.tables e below (Tn7_17.setTop (mkF m 15 #[.val (.ref a7_0), .val (.double d7_1), .second, .val (.int (own_j7_3 d7_1 x_w_running_a7_0_0 x_w_running_a7_0_1 x_w_rootDelayMs_a7_0_0 x_w_rootDelayMs_a7_0_1)), .val (.int (2 : Int32))] [])) _
    refine XS.aloadN Xn7_17.here hx rfl (hb hby own_d7_15) rfl rfl ?_
    show Steps p.tables e below (Tn7_17.setTop (mkF m 16 #[.val (.ref a7_0), .val (.double d7_1), .second, .val (.int (own_j7_3 d7_1 x_w_running_a7_0_0 x_w_running_a7_0_1 x_w_rootDelayMs_a7_0_0 x_w_rootDelayMs_a7_0_1)), .val (.int (2 : Int32))] [(.ref a7_0)])) _
    refine stn7_19 _ ?_
    show Steps p.tables e below (Tn7_19.setTop (mkF m 19 #[.val (.ref a7_0), .val (.double d7_1), .second, .val (.int (own_j7_3 d7_1 x_w_running_a7_0_0 x_w_running_a7_0_1 x_w_rootDelayMs_a7_0_0 x_w_rootDelayMs_a7_0_1)), .val (.int (2 : Int32))] [(.ref w_running_a7_0)])) _
    refine XS.iload Xn7_19.here hx rfl (hb hby own_d7_19) rfl ?_
    show Steps p.tables e below (Tn7_19.setTop (mkF m 21 #[.val (.ref a7_0), .val (.double d7_1), .second, .val (.int (own_j7_3 d7_1 x_w_running_a7_0_0 x_w_running_a7_0_1 x_w_rootDelayMs_a7_0_0 x_w_rootDelayMs_a7_0_1)), .val (.int (2 : Int32))] [(.int (2 : Int32)), (.ref w_running_a7_0)])) _
    refine Xn7_19.baloadBooleans hx (j := (2 : Int32)) (v := (.int x_w_running_a7_0_2)) (by rw [en7_19]; exact Aro7_20.1) (State.isArrayOf_alike hZ.alike Aro7_20.2.1) Aro7_20.2.2 hino7_20 hato7_20 (g := (mkF m 21 #[.val (.ref a7_0), .val (.double d7_1), .second, .val (.int (own_j7_3 d7_1 x_w_running_a7_0_0 x_w_running_a7_0_1 x_w_rootDelayMs_a7_0_0 x_w_rootDelayMs_a7_0_1)), .val (.int (2 : Int32))] [(.int (2 : Int32)), (.ref w_running_a7_0)])) rfl rfl (hb hby own_d7_21) _ ?_
    show Steps p.tables e below (Tn7_19.setTop (mkF m 22 #[.val (.ref a7_0), .val (.double d7_1), .second, .val (.int (own_j7_3 d7_1 x_w_running_a7_0_0 x_w_running_a7_0_1 x_w_rootDelayMs_a7_0_0 x_w_rootDelayMs_a7_0_1)), .val (.int (2 : Int32))] [(.int x_w_running_a7_0_2)])) _
    refine stj7_21 _ ?_
    show Steps p.tables e below (Tj7_21.setTop (mkF m 40 #[.val (.ref a7_0), .val (.double d7_1), .second, .val (.int (own_j7_5 d7_1 x_w_running_a7_0_0 x_w_running_a7_0_1 x_w_running_a7_0_2 x_w_rootDelayMs_a7_0_0 x_w_rootDelayMs_a7_0_1 x_w_rootDelayMs_a7_0_2)), .val (.int (2 : Int32))] [])) _
    refine XS.iinc Xj7_21.here hx rfl (hb hby own_d7_40) rfl (l' := #[.val (.ref a7_0), .val (.double d7_1), .second, .val (.int (own_j7_5 d7_1 x_w_running_a7_0_0 x_w_running_a7_0_1 x_w_running_a7_0_2 x_w_rootDelayMs_a7_0_0 x_w_rootDelayMs_a7_0_1 x_w_rootDelayMs_a7_0_2)), .val (.int (3 : Int32))]) rfl ?_
    show Steps p.tables e below (Tj7_21.setTop (mkF m 43 #[.val (.ref a7_0), .val (.double d7_1), .second, .val (.int (own_j7_5 d7_1 x_w_running_a7_0_0 x_w_running_a7_0_1 x_w_running_a7_0_2 x_w_rootDelayMs_a7_0_0 x_w_rootDelayMs_a7_0_1 x_w_rootDelayMs_a7_0_2)), .val (.int (3 : Int32))] [])) _
    refine XS.goto Xj7_21.here hx rfl (pc0 := 43) (pc' := 5) rfl (hb hby own_d7_43) (by decide) (by decide) ?_
    show Steps p.tables e below (Tj7_21.setTop (mkF m 5 #[.val (.ref a7_0), .val (.double d7_1), .second, .val (.int (own_j7_5 d7_1 x_w_running_a7_0_0 x_w_running_a7_0_1 x_w_running_a7_0_2 x_w_rootDelayMs_a7_0_0 x_w_rootDelayMs_a7_0_1 x_w_rootDelayMs_a7_0_2)), .val (.int (3 : Int32))] [])) _
    refine XS.iload Xj7_21.here hx rfl (hb hby own_d7_5) rfl ?_
    show Steps p.tables e below (Tj7_21.setTop (mkF m 7 #[.val (.ref a7_0), .val (.double d7_1), .second, .val (.int (own_j7_5 d7_1 x_w_running_a7_0_0 x_w_running_a7_0_1 x_w_running_a7_0_2 x_w_rootDelayMs_a7_0_0 x_w_rootDelayMs_a7_0_1 x_w_rootDelayMs_a7_0_2)), .val (.int (3 : Int32))] [(.int (3 : Int32))])) _
    refine XS.aloadN Xj7_21.here hx rfl (hb hby own_d7_7) rfl rfl ?_
    show Steps p.tables e below (Tj7_21.setTop (mkF m 8 #[.val (.ref a7_0), .val (.double d7_1), .second, .val (.int (own_j7_5 d7_1 x_w_running_a7_0_0 x_w_running_a7_0_1 x_w_running_a7_0_2 x_w_rootDelayMs_a7_0_0 x_w_rootDelayMs_a7_0_1 x_w_rootDelayMs_a7_0_2)), .val (.int (3 : Int32))] [(.ref a7_0), (.int (3 : Int32))])) _
    refine stn7_25 _ ?_
    show Steps p.tables e below (Tn7_25.setTop (mkF m 11 #[.val (.ref a7_0), .val (.double d7_1), .second, .val (.int (own_j7_5 d7_1 x_w_running_a7_0_0 x_w_running_a7_0_1 x_w_running_a7_0_2 x_w_rootDelayMs_a7_0_0 x_w_rootDelayMs_a7_0_1 x_w_rootDelayMs_a7_0_2)), .val (.int (3 : Int32))] [(.ref w_running_a7_0), (.int (3 : Int32))])) _
    refine Xn7_25.arraylength hx (by rw [en7_25]; exact Aro7_26.1) (State.isArrayOf_alike hZ.alike Aro7_26.2.1) (g := (mkF m 11 #[.val (.ref a7_0), .val (.double d7_1), .second, .val (.int (own_j7_5 d7_1 x_w_running_a7_0_0 x_w_running_a7_0_1 x_w_running_a7_0_2 x_w_rootDelayMs_a7_0_0 x_w_rootDelayMs_a7_0_1 x_w_rootDelayMs_a7_0_2)), .val (.int (3 : Int32))] [(.ref w_running_a7_0), (.int (3 : Int32))])) rfl rfl (hb hby own_d7_11) _ ?_
    rw [len_of So7_26 No7_26]
    show Steps p.tables e below (Tn7_25.setTop (mkF m 12 #[.val (.ref a7_0), .val (.double d7_1), .second, .val (.int (own_j7_5 d7_1 x_w_running_a7_0_0 x_w_running_a7_0_1 x_w_running_a7_0_2 x_w_rootDelayMs_a7_0_0 x_w_rootDelayMs_a7_0_1 x_w_rootDelayMs_a7_0_2)), .val (.int (3 : Int32))] [(.int (4 : Int32)), (.int (3 : Int32))])) _
    refine XS.icmpNo Xn7_25.here hx rfl (hb hby own_d7_12) rfl (XT.ii_ge_f (by decide : (3 : Int32) < (4 : Int32))) ?_
    show Steps p.tables e below (Tn7_25.setTop (mkF m 15 #[.val (.ref a7_0), .val (.double d7_1), .second, .val (.int (own_j7_5 d7_1 x_w_running_a7_0_0 x_w_running_a7_0_1 x_w_running_a7_0_2 x_w_rootDelayMs_a7_0_0 x_w_rootDelayMs_a7_0_1 x_w_rootDelayMs_a7_0_2)), .val (.int (3 : Int32))] [])) _
    refine XS.aloadN Xn7_25.here hx rfl (hb hby own_d7_15) rfl rfl ?_
    show Steps p.tables e below (Tn7_25.setTop (mkF m 16 #[.val (.ref a7_0), .val (.double d7_1), .second, .val (.int (own_j7_5 d7_1 x_w_running_a7_0_0 x_w_running_a7_0_1 x_w_running_a7_0_2 x_w_rootDelayMs_a7_0_0 x_w_rootDelayMs_a7_0_1 x_w_rootDelayMs_a7_0_2)), .val (.int (3 : Int32))] [(.ref a7_0)])) _
    refine stn7_27 _ ?_
    show Steps p.tables e below (Tn7_27.setTop (mkF m 19 #[.val (.ref a7_0), .val (.double d7_1), .second, .val (.int (own_j7_5 d7_1 x_w_running_a7_0_0 x_w_running_a7_0_1 x_w_running_a7_0_2 x_w_rootDelayMs_a7_0_0 x_w_rootDelayMs_a7_0_1 x_w_rootDelayMs_a7_0_2)), .val (.int (3 : Int32))] [(.ref w_running_a7_0)])) _
    refine XS.iload Xn7_27.here hx rfl (hb hby own_d7_19) rfl ?_
    show Steps p.tables e below (Tn7_27.setTop (mkF m 21 #[.val (.ref a7_0), .val (.double d7_1), .second, .val (.int (own_j7_5 d7_1 x_w_running_a7_0_0 x_w_running_a7_0_1 x_w_running_a7_0_2 x_w_rootDelayMs_a7_0_0 x_w_rootDelayMs_a7_0_1 x_w_rootDelayMs_a7_0_2)), .val (.int (3 : Int32))] [(.int (3 : Int32)), (.ref w_running_a7_0)])) _
    refine Xn7_27.baloadBooleans hx (j := (3 : Int32)) (v := (.int x_w_running_a7_0_3)) (by rw [en7_27]; exact Aro7_28.1) (State.isArrayOf_alike hZ.alike Aro7_28.2.1) Aro7_28.2.2 hino7_28 hato7_28 (g := (mkF m 21 #[.val (.ref a7_0), .val (.double d7_1), .second, .val (.int (own_j7_5 d7_1 x_w_running_a7_0_0 x_w_running_a7_0_1 x_w_running_a7_0_2 x_w_rootDelayMs_a7_0_0 x_w_rootDelayMs_a7_0_1 x_w_rootDelayMs_a7_0_2)), .val (.int (3 : Int32))] [(.int (3 : Int32)), (.ref w_running_a7_0)])) rfl rfl (hb hby own_d7_21) _ ?_
    show Steps p.tables e below (Tn7_27.setTop (mkF m 22 #[.val (.ref a7_0), .val (.double d7_1), .second, .val (.int (own_j7_5 d7_1 x_w_running_a7_0_0 x_w_running_a7_0_1 x_w_running_a7_0_2 x_w_rootDelayMs_a7_0_0 x_w_rootDelayMs_a7_0_1 x_w_rootDelayMs_a7_0_2)), .val (.int (3 : Int32))] [(.int x_w_running_a7_0_3)])) _
    refine stj7_29 _ ?_
    show Steps p.tables e below (Tj7_29.setTop (mkF m 40 #[.val (.ref a7_0), .val (.double d7_1), .second, .val (.int (own_j7_7 d7_1 x_w_running_a7_0_0 x_w_running_a7_0_1 x_w_running_a7_0_2 x_w_running_a7_0_3 x_w_rootDelayMs_a7_0_0 x_w_rootDelayMs_a7_0_1 x_w_rootDelayMs_a7_0_2 x_w_rootDelayMs_a7_0_3)), .val (.int (3 : Int32))] [])) _
    refine XS.iinc Xj7_29.here hx rfl (hb hby own_d7_40) rfl (l' := #[.val (.ref a7_0), .val (.double d7_1), .second, .val (.int (own_j7_7 d7_1 x_w_running_a7_0_0 x_w_running_a7_0_1 x_w_running_a7_0_2 x_w_running_a7_0_3 x_w_rootDelayMs_a7_0_0 x_w_rootDelayMs_a7_0_1 x_w_rootDelayMs_a7_0_2 x_w_rootDelayMs_a7_0_3)), .val (.int (4 : Int32))]) rfl ?_
    show Steps p.tables e below (Tj7_29.setTop (mkF m 43 #[.val (.ref a7_0), .val (.double d7_1), .second, .val (.int (own_j7_7 d7_1 x_w_running_a7_0_0 x_w_running_a7_0_1 x_w_running_a7_0_2 x_w_running_a7_0_3 x_w_rootDelayMs_a7_0_0 x_w_rootDelayMs_a7_0_1 x_w_rootDelayMs_a7_0_2 x_w_rootDelayMs_a7_0_3)), .val (.int (4 : Int32))] [])) _
    refine XS.goto Xj7_29.here hx rfl (pc0 := 43) (pc' := 5) rfl (hb hby own_d7_43) (by decide) (by decide) ?_
    show Steps p.tables e below (Tj7_29.setTop (mkF m 5 #[.val (.ref a7_0), .val (.double d7_1), .second, .val (.int (own_j7_7 d7_1 x_w_running_a7_0_0 x_w_running_a7_0_1 x_w_running_a7_0_2 x_w_running_a7_0_3 x_w_rootDelayMs_a7_0_0 x_w_rootDelayMs_a7_0_1 x_w_rootDelayMs_a7_0_2 x_w_rootDelayMs_a7_0_3)), .val (.int (4 : Int32))] [])) _
    refine XS.iload Xj7_29.here hx rfl (hb hby own_d7_5) rfl ?_
    show Steps p.tables e below (Tj7_29.setTop (mkF m 7 #[.val (.ref a7_0), .val (.double d7_1), .second, .val (.int (own_j7_7 d7_1 x_w_running_a7_0_0 x_w_running_a7_0_1 x_w_running_a7_0_2 x_w_running_a7_0_3 x_w_rootDelayMs_a7_0_0 x_w_rootDelayMs_a7_0_1 x_w_rootDelayMs_a7_0_2 x_w_rootDelayMs_a7_0_3)), .val (.int (4 : Int32))] [(.int (4 : Int32))])) _
    refine XS.aloadN Xj7_29.here hx rfl (hb hby own_d7_7) rfl rfl ?_
    show Steps p.tables e below (Tj7_29.setTop (mkF m 8 #[.val (.ref a7_0), .val (.double d7_1), .second, .val (.int (own_j7_7 d7_1 x_w_running_a7_0_0 x_w_running_a7_0_1 x_w_running_a7_0_2 x_w_running_a7_0_3 x_w_rootDelayMs_a7_0_0 x_w_rootDelayMs_a7_0_1 x_w_rootDelayMs_a7_0_2 x_w_rootDelayMs_a7_0_3)), .val (.int (4 : Int32))] [(.ref a7_0), (.int (4 : Int32))])) _
    refine stn7_33 _ ?_
    show Steps p.tables e below (Tn7_33.setTop (mkF m 11 #[.val (.ref a7_0), .val (.double d7_1), .second, .val (.int (own_j7_7 d7_1 x_w_running_a7_0_0 x_w_running_a7_0_1 x_w_running_a7_0_2 x_w_running_a7_0_3 x_w_rootDelayMs_a7_0_0 x_w_rootDelayMs_a7_0_1 x_w_rootDelayMs_a7_0_2 x_w_rootDelayMs_a7_0_3)), .val (.int (4 : Int32))] [(.ref w_running_a7_0), (.int (4 : Int32))])) _
    refine Xn7_33.arraylength hx (by rw [en7_33]; exact Aro7_34.1) (State.isArrayOf_alike hZ.alike Aro7_34.2.1) (g := (mkF m 11 #[.val (.ref a7_0), .val (.double d7_1), .second, .val (.int (own_j7_7 d7_1 x_w_running_a7_0_0 x_w_running_a7_0_1 x_w_running_a7_0_2 x_w_running_a7_0_3 x_w_rootDelayMs_a7_0_0 x_w_rootDelayMs_a7_0_1 x_w_rootDelayMs_a7_0_2 x_w_rootDelayMs_a7_0_3)), .val (.int (4 : Int32))] [(.ref w_running_a7_0), (.int (4 : Int32))])) rfl rfl (hb hby own_d7_11) _ ?_
    rw [len_of So7_34 No7_34]
    show Steps p.tables e below (Tn7_33.setTop (mkF m 12 #[.val (.ref a7_0), .val (.double d7_1), .second, .val (.int (own_j7_7 d7_1 x_w_running_a7_0_0 x_w_running_a7_0_1 x_w_running_a7_0_2 x_w_running_a7_0_3 x_w_rootDelayMs_a7_0_0 x_w_rootDelayMs_a7_0_1 x_w_rootDelayMs_a7_0_2 x_w_rootDelayMs_a7_0_3)), .val (.int (4 : Int32))] [(.int (4 : Int32)), (.int (4 : Int32))])) _
    refine XS.icmpYes Xn7_33.here hx rfl (pc0 := 12) (pc' := 46) rfl (hb hby own_d7_12) rfl (XT.ii_ge_t (by decide : ¬ ((4 : Int32) < (4 : Int32)))) (by decide) (by decide) ?_
    show Steps p.tables e below (Tn7_33.setTop (mkF m 46 #[.val (.ref a7_0), .val (.double d7_1), .second, .val (.int (own_j7_7 d7_1 x_w_running_a7_0_0 x_w_running_a7_0_1 x_w_running_a7_0_2 x_w_running_a7_0_3 x_w_rootDelayMs_a7_0_0 x_w_rootDelayMs_a7_0_1 x_w_rootDelayMs_a7_0_2 x_w_rootDelayMs_a7_0_3)), .val (.int (4 : Int32))] [])) _
    refine XS.iloadN Xn7_33.here hx rfl (hb hby own_d7_46) rfl ?_
    show Steps p.tables e below (Tn7_33.setTop (mkF m 47 #[.val (.ref a7_0), .val (.double d7_1), .second, .val (.int (own_j7_7 d7_1 x_w_running_a7_0_0 x_w_running_a7_0_1 x_w_running_a7_0_2 x_w_running_a7_0_3 x_w_rootDelayMs_a7_0_0 x_w_rootDelayMs_a7_0_1 x_w_rootDelayMs_a7_0_2 x_w_rootDelayMs_a7_0_3)), .val (.int (4 : Int32))] [(.int (own_j7_7 d7_1 x_w_running_a7_0_0 x_w_running_a7_0_1 x_w_running_a7_0_2 x_w_running_a7_0_3 x_w_rootDelayMs_a7_0_0 x_w_rootDelayMs_a7_0_1 x_w_rootDelayMs_a7_0_2 x_w_rootDelayMs_a7_0_3))])) _
    exact retI Xn7_33 hx Bd.returns (hb hby own_d7_47) hr
  · show own_Q7 Z a7_0 d7_1 w_running_a7_0 k_w_running_a7_0 x_w_running_a7_0_0 x_w_running_a7_0_1 x_w_running_a7_0_2 x_w_running_a7_0_3 w_rootDelayMs_a7_0 k_w_rootDelayMs_a7_0 x_w_rootDelayMs_a7_0_0 x_w_rootDelayMs_a7_0_1 x_w_rootDelayMs_a7_0_2 x_w_rootDelayMs_a7_0_3 h0 n0 _ Tn7_33.heap _
    rw [en7_33]
    exact ⟨rfl, Nj7_29, rfl⟩
theorem own_pd2 : parseMethodDescriptor "(III)D" = some ⟨[.int, .int, .int], some .double⟩ := by decide +kernel
theorem own_pd3 : parseMethodDescriptor "(II)I" = some ⟨[.int, .int], some .int⟩ := by decide +kernel
theorem own_pd4 : parseMethodDescriptor "([I[D[ZD)V" = some ⟨[(.array .int), (.array .double), (.array .boolean), .double], none⟩ := by decide +kernel
theorem own_pd5 : parseMethodDescriptor "(D)I" = some ⟨[.double], some .int⟩ := by decide +kernel
theorem own_pd6 : parseMethodDescriptor "(IIII)I" = some ⟨[.int, .int, .int, .int], some .int⟩ := by decide +kernel
def own_j0_0 (p0_0 : Int32) : Int32 := if ((p0_0 >>> ((0 : Int32) &&& 31)) &&& (1 : Int32)) = (0 : Int32) then (0 : Int32) else (1 : Int32)
def own_j0_1 (p0_0 : Int32) : Int32 := if ((p0_0 >>> ((1 : Int32) &&& 31)) &&& (1 : Int32)) = (0 : Int32) then (0 : Int32) else (1 : Int32)
def own_j0_2 (p0_0 : Int32) : Int32 := if ((p0_0 >>> ((2 : Int32) &&& 31)) &&& (1 : Int32)) = (0 : Int32) then (0 : Int32) else (1 : Int32)
def own_j0_3 (p0_0 : Int32) : Int32 := if ((p0_0 >>> ((3 : Int32) &&& 31)) &&& (1 : Int32)) = (0 : Int32) then (0 : Int32) else (1 : Int32)
def own_v0_4 (p0_0 : Int32) (p0_1 : Int32) : UInt64 := (own_r1_0 p0_0 (0 : Int32) p0_1)
def own_v0_5 (p0_0 : Int32) (p0_2 : Int32) : UInt64 := (own_r1_0 p0_0 (1 : Int32) p0_2)
def own_v0_6 (p0_0 : Int32) (p0_3 : Int32) : UInt64 := (own_r1_0 p0_0 (2 : Int32) p0_3)
def own_v0_7 (p0_0 : Int32) (p0_4 : Int32) : UInt64 := (own_r1_0 p0_0 (3 : Int32) p0_4)
def own_v0_8 (p0_0 : Int32) (p0_1 : Int32) (p0_2 : Int32) (p0_3 : Int32) (p0_4 : Int32) (p0_5 : Int32) : Int32 := (own_r7_8 (FP.i2d p0_5) (nar .boolean (own_j0_0 p0_0)) (nar .boolean (own_j0_1 p0_0)) (nar .boolean (own_j0_2 p0_0)) (nar .boolean (own_j0_3 p0_0)) (own_v0_4 p0_0 p0_1) (own_v0_5 p0_0 p0_2) (own_v0_6 p0_0 p0_3) (own_v0_7 p0_0 p0_4))
def own_v0_9 (p0_0 : Int32) (p0_1 : Int32) (p0_2 : Int32) (p0_3 : Int32) (p0_4 : Int32) (p0_5 : Int32) : Int32 := ((((own_r8_0 p0_0 (0 : Int32) p0_1 p0_5) + (own_r8_0 p0_0 (1 : Int32) p0_2 p0_5)) + (own_r8_0 p0_0 (2 : Int32) p0_3 p0_5)) + (own_r8_0 p0_0 (3 : Int32) p0_4 p0_5))
theorem own_ef0 (m : MethodId) (p0_0 : Int32) (p0_1 : Int32) (p0_2 : Int32) (p0_3 : Int32) (p0_4 : Int32) (p0_5 : Int32) : entryFrame m #[(.int p0_0), (.int p0_1), (.int p0_2), (.int p0_3), (.int p0_4), (.int p0_5)] maxLocals = mkF m 0 #[.val (.int p0_0), .val (.int p0_1), .val (.int p0_2), .val (.int p0_3), .val (.int p0_4), .val (.int p0_5), .unset, .unset, .unset, .unset, .unset, .unset] [] := by first | (simp [entryFrame, mkF, argsToLocals, Value.category, maxLocals]; done) | rfl
def own_Q0 (Z : State) (p0_0 : Int32) (p0_1 : Int32) (p0_2 : Int32) (p0_3 : Int32) (p0_4 : Int32) (p0_5 : Int32) (h0 : Heap) (n0 : Nat) (v : Option Value) (h : Heap) (L : List Loc) : Prop := v = some (.int (1 : Int32)) ∧ Fr n0 L
set_option maxRecDepth 65536 in
set_option maxHeartbeats 40000000 in
theorem own_rm0 (l : Launch) (Z : State) (a0 : Array Value) (hw : ∀ d ∈ tables_1, d.before a0 Z = true) (ws : List Jvm.Cond) (p0_0 : Int32) (p0_1 : Int32) (p0_2 : Int32) (p0_3 : Int32) (p0_4 : Int32) (p0_5 : Int32) (h0 : Heap) (n0 : Nat) (Z0 : n0 ≤ h0.size) (hc228 : (own_v0_8 p0_0 p0_1 p0_2 p0_3 p0_4 p0_5) = (own_v0_9 p0_0 p0_1 p0_2 p0_3 p0_4 p0_5)) :
    MetFree l x (head1 (Jvm.Cond.code x code maxLocals ret :: ws) room_1) (fun a U => a = #[(.int p0_0), (.int p0_1), (.int p0_2), (.int p0_3), (.int p0_4), (.int p0_5)] ∧ Z.Warmed39 U.vm ∧ U.heap = h0) (fun _ _ _ _ _ => True) (fun _ U o U' => ∃ v L, o = .returned v ∧ own_Q0 Z p0_0 p0_1 p0_2 p0_3 p0_4 p0_5 h0 n0 v U'.heap L ∧ FrameEnd U o U' L room_1.cells room_1.slots) := by
  refine MetFree.of_bodySF (plainFor_of_name own_pn0) hisR ?_
  intro p e s m args below meth c s₁ Bd hml0 hP hK
  obtain ⟨rfl, hZ, hh⟩ := hP
  have hx := Bd.exec
  have hby := Bd.bytes
  have hml : c.maxLocals = 12 := hml0
  have hown : s.vm.findClass "com/example/arborway/arborway/sim/WalkOverPinLaw" = some m.cls := findClass_of_methodNamed Bd.named
  have hnm := (name_of_methodNamed Bd.named Bd.method).1
  have X0 : Stand p l e room_1 s m #[(.int p0_0), (.int p0_1), (.int p0_2), (.int p0_3), (.int p0_4), (.int p0_5)] below meth c s₁ [] 0 0 := Stand.of_body Bd
  have e0 : s₁.heap = h0 := by rw [← hh, Bd.state]; rfl
  have N0 := Fr.nil n0
  have Zr : h0.size ≤ h0.size := Nat.le_refl _
  have pre0 : ∀ t, Steps p.tables e below (s₁.setTop (mkF m 0 #[.val (.int p0_0), .val (.int p0_1), .val (.int p0_2), .val (.int p0_3), .val (.int p0_4), .val (.int p0_5), .unset, .unset, .unset, .unset, .unset, .unset] [])) t → Steps p.tables e below (s₁.setTop (entryFrame m #[(.int p0_0), (.int p0_1), (.int p0_2), (.int p0_3), (.int p0_4), (.int p0_5)] maxLocals)) t := fun t k => castTop (own_ef0 m p0_0 p0_1 p0_2 p0_3 p0_4 p0_5) k
  obtain ⟨Tn0_1, hn0_1, kn0_1, Xn0_1, en0_1, En0_1, An0_1, stn0_1⟩ := newP X0 hx hZ (hw _ (List.mem_of_getElem? (i := 0) rfl)) e0 (g := (mkF m 1 #[.val (.int p0_0), .val (.int p0_1), .val (.int p0_2), .val (.int p0_3), .val (.int p0_4), .val (.int p0_5), .unset, .unset, .unset, .unset, .unset, .unset] [(.int (4 : Int32))])) rfl (hb hby at_1) rfl (by decide) (cap := 4) (by decide) (by decide) (by decide) (by decide)
  obtain ⟨bn0_1, gn0_1⟩ : ∃ z, z = h0.size := ⟨_, rfl⟩
  rw [← gn0_1] at An0_1 stn0_1
  have g_bn0_1 : n0 ≤ bn0_1 := Nat.le_trans Z0 (Nat.le_of_eq gn0_1.symm)
  have sz_bn0_1 : h0.size ≤ bn0_1 := Nat.le_trans Zr (Nat.le_of_eq gn0_1.symm)
  have sz0_2 : h0.size ≤ hn0_1.size := Nat.le_trans Zr En0_1.1
  have V_bn0_1 : Arv Z hn0_1 bn0_1 kn0_1 .boolean (4 : Int32) [(.int (0 : Int32)), (.int (0 : Int32)), (.int (0 : Int32)), (.int (0 : Int32))] (.int (0 : Int32)) := (Arv.new An0_1 (by decide)).pad (pad_rep [] (.int (0 : Int32)) 4)
  obtain ⟨Tn0_3, hn0_3, kn0_3, Xn0_3, en0_3, En0_3, An0_3, stn0_3⟩ := newP Xn0_1 hx hZ (hw _ (List.mem_of_getElem? (i := 1) rfl)) en0_1 (g := (mkF m 6 #[.val (.int p0_0), .val (.int p0_1), .val (.int p0_2), .val (.int p0_3), .val (.int p0_4), .val (.int p0_5), .val (.ref bn0_1), .unset, .unset, .unset, .unset, .unset] [(.int (4 : Int32))])) rfl (hb hby at_6) rfl (by decide) (cap := 4) (by decide) (by decide) (by decide) (by decide)
  obtain ⟨bn0_3, gn0_3⟩ : ∃ z, z = hn0_1.size := ⟨_, rfl⟩
  rw [← gn0_3] at An0_3 stn0_3
  have g_bn0_3 : n0 ≤ bn0_3 := Nat.le_trans (Nat.le_trans Z0 sz0_2) (Nat.le_of_eq gn0_3.symm)
  have sz_bn0_3 : h0.size ≤ bn0_3 := Nat.le_trans sz0_2 (Nat.le_of_eq gn0_3.symm)
  have sz0_4 : h0.size ≤ hn0_3.size := Nat.le_trans sz0_2 En0_3.1
  have V_bn0_3 : Arv Z hn0_3 bn0_3 kn0_3 .double (4 : Int32) [(.double (0 : UInt64)), (.double (0 : UInt64)), (.double (0 : UInt64)), (.double (0 : UInt64))] (.double (0 : UInt64)) := (Arv.new An0_3 (by decide)).pad (pad_rep [] (.double (0 : UInt64)) 4)
  obtain ⟨Tn0_5, hn0_5, kn0_5, Xn0_5, en0_5, En0_5, An0_5, stn0_5⟩ := newP Xn0_3 hx hZ (hw _ (List.mem_of_getElem? (i := 2) rfl)) en0_3 (g := (mkF m 11 #[.val (.int p0_0), .val (.int p0_1), .val (.int p0_2), .val (.int p0_3), .val (.int p0_4), .val (.int p0_5), .val (.ref bn0_1), .val (.ref bn0_3), .unset, .unset, .unset, .unset] [(.int (4 : Int32))])) rfl (hb hby at_11) rfl (by decide) (cap := 4) (by decide) (by decide) (by decide) (by decide)
  obtain ⟨bn0_5, gn0_5⟩ : ∃ z, z = hn0_3.size := ⟨_, rfl⟩
  rw [← gn0_5] at An0_5 stn0_5
  have g_bn0_5 : n0 ≤ bn0_5 := Nat.le_trans (Nat.le_trans Z0 sz0_4) (Nat.le_of_eq gn0_5.symm)
  have sz_bn0_5 : h0.size ≤ bn0_5 := Nat.le_trans sz0_4 (Nat.le_of_eq gn0_5.symm)
  have sz0_6 : h0.size ≤ hn0_5.size := Nat.le_trans sz0_4 En0_5.1
  have V_bn0_5 : Arv Z hn0_5 bn0_5 kn0_5 .int (4 : Int32) [(.int (0 : Int32)), (.int (0 : Int32)), (.int (0 : Int32)), (.int (0 : Int32))] (.int (0 : Int32)) := (Arv.new An0_5 (by decide)).pad (pad_rep [] (.int (0 : Int32)) 4)
  obtain ⟨Tj0_7, lj0_7, Xj0_7, Nj0_7, ej0_7, stj0_7⟩ : ∃ (T' : State) (l' : List Loc), Stand p l e room_1 s m #[(.int p0_0), (.int p0_1), (.int p0_2), (.int p0_3), (.int p0_4), (.int p0_5)] below meth c T' l' 3 12 ∧ Fr n0 l' ∧ T'.heap = hn0_5 ∧ ∀ target, Steps p.tables e below (T'.setTop (mkF m 31 #[.val (.int p0_0), .val (.int p0_1), .val (.int p0_2), .val (.int p0_3), .val (.int p0_4), .val (.int p0_5), .val (.ref bn0_1), .val (.ref bn0_3), .val (.ref bn0_5), .unset, .unset, .unset] [(.int (own_j0_0 p0_0)), (.int (0 : Int32)), (.ref bn0_1)])) target → Steps p.tables e below (Tn0_5.setTop (mkF m 23 #[.val (.int p0_0), .val (.int p0_1), .val (.int p0_2), .val (.int p0_3), .val (.int p0_4), .val (.int p0_5), .val (.ref bn0_1), .val (.ref bn0_3), .val (.ref bn0_5), .unset, .unset, .unset] [(.int ((p0_0 >>> ((0 : Int32) &&& 31)) &&& (1 : Int32))), (.int (0 : Int32)), (.ref bn0_1)])) target := by
    by_cases hj0_7 : ((p0_0 >>> ((0 : Int32) &&& 31)) &&& (1 : Int32)) = (0 : Int32)
    · refine ⟨_, _, Xn0_5, N0, en0_5, fun target kt => ?_⟩
      rw [(show (own_j0_0 p0_0) = (0 : Int32) from if_pos hj0_7)] at kt
      show Steps p.tables e below (Tn0_5.setTop (mkF m 23 #[.val (.int p0_0), .val (.int p0_1), .val (.int p0_2), .val (.int p0_3), .val (.int p0_4), .val (.int p0_5), .val (.ref bn0_1), .val (.ref bn0_3), .val (.ref bn0_5), .unset, .unset, .unset] [(.int ((p0_0 >>> ((0 : Int32) &&& 31)) &&& (1 : Int32))), (.int (0 : Int32)), (.ref bn0_1)])) _
      refine XS.ifYes Xn0_5.here hx rfl (pc0 := 23) (pc' := 30) rfl (hb hby at_23) rfl (XT.i0_eq_t hj0_7) (by decide) (by decide) ?_
      show Steps p.tables e below (Tn0_5.setTop (mkF m 30 #[.val (.int p0_0), .val (.int p0_1), .val (.int p0_2), .val (.int p0_3), .val (.int p0_4), .val (.int p0_5), .val (.ref bn0_1), .val (.ref bn0_3), .val (.ref bn0_5), .unset, .unset, .unset] [(.int (0 : Int32)), (.ref bn0_1)])) _
      refine XS.iconst Xn0_5.here hx rfl (hb hby at_30) ?_
      exact kt
    · refine ⟨_, _, Xn0_5, N0, en0_5, fun target kt => ?_⟩
      rw [(show (own_j0_0 p0_0) = (1 : Int32) from if_neg hj0_7)] at kt
      show Steps p.tables e below (Tn0_5.setTop (mkF m 23 #[.val (.int p0_0), .val (.int p0_1), .val (.int p0_2), .val (.int p0_3), .val (.int p0_4), .val (.int p0_5), .val (.ref bn0_1), .val (.ref bn0_3), .val (.ref bn0_5), .unset, .unset, .unset] [(.int ((p0_0 >>> ((0 : Int32) &&& 31)) &&& (1 : Int32))), (.int (0 : Int32)), (.ref bn0_1)])) _
      refine XS.ifNo Xn0_5.here hx rfl (hb hby at_23) rfl (XT.i0_eq_f hj0_7) ?_
      show Steps p.tables e below (Tn0_5.setTop (mkF m 26 #[.val (.int p0_0), .val (.int p0_1), .val (.int p0_2), .val (.int p0_3), .val (.int p0_4), .val (.int p0_5), .val (.ref bn0_1), .val (.ref bn0_3), .val (.ref bn0_5), .unset, .unset, .unset] [(.int (0 : Int32)), (.ref bn0_1)])) _
      refine XS.iconst Xn0_5.here hx rfl (hb hby at_26) ?_
      show Steps p.tables e below (Tn0_5.setTop (mkF m 27 #[.val (.int p0_0), .val (.int p0_1), .val (.int p0_2), .val (.int p0_3), .val (.int p0_4), .val (.int p0_5), .val (.ref bn0_1), .val (.ref bn0_3), .val (.ref bn0_5), .unset, .unset, .unset] [(.int (1 : Int32)), (.int (0 : Int32)), (.ref bn0_1)])) _
      refine XS.goto Xn0_5.here hx rfl (pc0 := 27) (pc' := 31) rfl (hb hby at_27) (by decide) (by decide) ?_
      exact kt
  have F0_8 := ((V_bn0_1.ext En0_3).ext En0_5)
  have Oo0_9 := F0_8
  obtain ⟨clo0_9, Aro0_9, qo0_9, So0_9, No0_9, Ho0_9, Go0_9⟩ := Oo0_9
  have hino0_9 : ¬ ((0 : Int32) < 0 ∨ clo0_9.slots.size ≤ ((0 : Int32)).toNatClampNeg) := inb_of So0_9 ⟨by decide, by decide⟩
  obtain ⟨To0_9, ho0_9, Xo0_9, eo0_9, Wo0_9, sto0_9⟩ := stZ Xj0_7 hx hZ ej0_7 Aro0_9 (j := (0 : Int32)) hino0_9 (g := (mkF m 31 #[.val (.int p0_0), .val (.int p0_1), .val (.int p0_2), .val (.int p0_3), .val (.int p0_4), .val (.int p0_5), .val (.ref bn0_1), .val (.ref bn0_3), .val (.ref bn0_5), .unset, .unset, .unset] [(.int (own_j0_0 p0_0)), (.int (0 : Int32)), (.ref bn0_1)])) rfl rfl (hb hby at_31)
  have Vwo0_9 : Arv Z ho0_9 bn0_1 kn0_1 .boolean (4 : Int32) [(.int (nar .boolean (own_j0_0 p0_0))), (.int (0 : Int32)), (.int (0 : Int32)), (.int (0 : Int32))] (.int (0 : Int32)) := Arv.set Aro0_9 qo0_9 So0_9 No0_9 Ho0_9 Go0_9 (fits_nar_bool _) Wo0_9 0 rfl (Nat.le_of_ble_eq_true rfl)
  have sz0_10 : h0.size ≤ ho0_9.size := Nat.le_trans sz0_6 (Nat.le_of_eq Wo0_9.size.symm)
  have Nfo0_9 := Fr.snoc Xo0_9 Nj0_7 g_bn0_1
  obtain ⟨Tj0_11, lj0_11, Xj0_11, Nj0_11, ej0_11, stj0_11⟩ : ∃ (T' : State) (l' : List Loc), Stand p l e room_1 s m #[(.int p0_0), (.int p0_1), (.int p0_2), (.int p0_3), (.int p0_4), (.int p0_5)] below meth c T' l' 3 12 ∧ Fr n0 l' ∧ T'.heap = ho0_9 ∧ ∀ target, Steps p.tables e below (T'.setTop (mkF m 48 #[.val (.int p0_0), .val (.int p0_1), .val (.int p0_2), .val (.int p0_3), .val (.int p0_4), .val (.int p0_5), .val (.ref bn0_1), .val (.ref bn0_3), .val (.ref bn0_5), .unset, .unset, .unset] [(.int (own_j0_1 p0_0)), (.int (1 : Int32)), (.ref bn0_1)])) target → Steps p.tables e below (To0_9.setTop (mkF m 40 #[.val (.int p0_0), .val (.int p0_1), .val (.int p0_2), .val (.int p0_3), .val (.int p0_4), .val (.int p0_5), .val (.ref bn0_1), .val (.ref bn0_3), .val (.ref bn0_5), .unset, .unset, .unset] [(.int ((p0_0 >>> ((1 : Int32) &&& 31)) &&& (1 : Int32))), (.int (1 : Int32)), (.ref bn0_1)])) target := by
    by_cases hj0_11 : ((p0_0 >>> ((1 : Int32) &&& 31)) &&& (1 : Int32)) = (0 : Int32)
    · refine ⟨_, _, Xo0_9, Nfo0_9, eo0_9, fun target kt => ?_⟩
      rw [(show (own_j0_1 p0_0) = (0 : Int32) from if_pos hj0_11)] at kt
      show Steps p.tables e below (To0_9.setTop (mkF m 40 #[.val (.int p0_0), .val (.int p0_1), .val (.int p0_2), .val (.int p0_3), .val (.int p0_4), .val (.int p0_5), .val (.ref bn0_1), .val (.ref bn0_3), .val (.ref bn0_5), .unset, .unset, .unset] [(.int ((p0_0 >>> ((1 : Int32) &&& 31)) &&& (1 : Int32))), (.int (1 : Int32)), (.ref bn0_1)])) _
      refine XS.ifYes Xo0_9.here hx rfl (pc0 := 40) (pc' := 47) rfl (hb hby at_40) rfl (XT.i0_eq_t hj0_11) (by decide) (by decide) ?_
      show Steps p.tables e below (To0_9.setTop (mkF m 47 #[.val (.int p0_0), .val (.int p0_1), .val (.int p0_2), .val (.int p0_3), .val (.int p0_4), .val (.int p0_5), .val (.ref bn0_1), .val (.ref bn0_3), .val (.ref bn0_5), .unset, .unset, .unset] [(.int (1 : Int32)), (.ref bn0_1)])) _
      refine XS.iconst Xo0_9.here hx rfl (hb hby at_47) ?_
      exact kt
    · refine ⟨_, _, Xo0_9, Nfo0_9, eo0_9, fun target kt => ?_⟩
      rw [(show (own_j0_1 p0_0) = (1 : Int32) from if_neg hj0_11)] at kt
      show Steps p.tables e below (To0_9.setTop (mkF m 40 #[.val (.int p0_0), .val (.int p0_1), .val (.int p0_2), .val (.int p0_3), .val (.int p0_4), .val (.int p0_5), .val (.ref bn0_1), .val (.ref bn0_3), .val (.ref bn0_5), .unset, .unset, .unset] [(.int ((p0_0 >>> ((1 : Int32) &&& 31)) &&& (1 : Int32))), (.int (1 : Int32)), (.ref bn0_1)])) _
      refine XS.ifNo Xo0_9.here hx rfl (hb hby at_40) rfl (XT.i0_eq_f hj0_11) ?_
      show Steps p.tables e below (To0_9.setTop (mkF m 43 #[.val (.int p0_0), .val (.int p0_1), .val (.int p0_2), .val (.int p0_3), .val (.int p0_4), .val (.int p0_5), .val (.ref bn0_1), .val (.ref bn0_3), .val (.ref bn0_5), .unset, .unset, .unset] [(.int (1 : Int32)), (.ref bn0_1)])) _
      refine XS.iconst Xo0_9.here hx rfl (hb hby at_43) ?_
      show Steps p.tables e below (To0_9.setTop (mkF m 44 #[.val (.int p0_0), .val (.int p0_1), .val (.int p0_2), .val (.int p0_3), .val (.int p0_4), .val (.int p0_5), .val (.ref bn0_1), .val (.ref bn0_3), .val (.ref bn0_5), .unset, .unset, .unset] [(.int (1 : Int32)), (.int (1 : Int32)), (.ref bn0_1)])) _
      refine XS.goto Xo0_9.here hx rfl (pc0 := 44) (pc' := 48) rfl (hb hby at_44) (by decide) (by decide) ?_
      exact kt
  have Oo0_12 := Vwo0_9
  obtain ⟨clo0_12, Aro0_12, qo0_12, So0_12, No0_12, Ho0_12, Go0_12⟩ := Oo0_12
  have hino0_12 : ¬ ((1 : Int32) < 0 ∨ clo0_12.slots.size ≤ ((1 : Int32)).toNatClampNeg) := inb_of So0_12 ⟨by decide, by decide⟩
  obtain ⟨To0_12, ho0_12, Xo0_12, eo0_12, Wo0_12, sto0_12⟩ := stZ Xj0_11 hx hZ ej0_11 Aro0_12 (j := (1 : Int32)) hino0_12 (g := (mkF m 48 #[.val (.int p0_0), .val (.int p0_1), .val (.int p0_2), .val (.int p0_3), .val (.int p0_4), .val (.int p0_5), .val (.ref bn0_1), .val (.ref bn0_3), .val (.ref bn0_5), .unset, .unset, .unset] [(.int (own_j0_1 p0_0)), (.int (1 : Int32)), (.ref bn0_1)])) rfl rfl (hb hby at_48)
  have Vwo0_12 : Arv Z ho0_12 bn0_1 kn0_1 .boolean (4 : Int32) [(.int (nar .boolean (own_j0_0 p0_0))), (.int (nar .boolean (own_j0_1 p0_0))), (.int (0 : Int32)), (.int (0 : Int32))] (.int (0 : Int32)) := Arv.set Aro0_12 qo0_12 So0_12 No0_12 Ho0_12 Go0_12 (fits_nar_bool _) Wo0_12 1 rfl (Nat.le_of_ble_eq_true rfl)
  have sz0_13 : h0.size ≤ ho0_12.size := Nat.le_trans sz0_10 (Nat.le_of_eq Wo0_12.size.symm)
  have Nfo0_12 := Fr.snoc Xo0_12 Nj0_11 g_bn0_1
  obtain ⟨Tj0_14, lj0_14, Xj0_14, Nj0_14, ej0_14, stj0_14⟩ : ∃ (T' : State) (l' : List Loc), Stand p l e room_1 s m #[(.int p0_0), (.int p0_1), (.int p0_2), (.int p0_3), (.int p0_4), (.int p0_5)] below meth c T' l' 3 12 ∧ Fr n0 l' ∧ T'.heap = ho0_12 ∧ ∀ target, Steps p.tables e below (T'.setTop (mkF m 65 #[.val (.int p0_0), .val (.int p0_1), .val (.int p0_2), .val (.int p0_3), .val (.int p0_4), .val (.int p0_5), .val (.ref bn0_1), .val (.ref bn0_3), .val (.ref bn0_5), .unset, .unset, .unset] [(.int (own_j0_2 p0_0)), (.int (2 : Int32)), (.ref bn0_1)])) target → Steps p.tables e below (To0_12.setTop (mkF m 57 #[.val (.int p0_0), .val (.int p0_1), .val (.int p0_2), .val (.int p0_3), .val (.int p0_4), .val (.int p0_5), .val (.ref bn0_1), .val (.ref bn0_3), .val (.ref bn0_5), .unset, .unset, .unset] [(.int ((p0_0 >>> ((2 : Int32) &&& 31)) &&& (1 : Int32))), (.int (2 : Int32)), (.ref bn0_1)])) target := by
    by_cases hj0_14 : ((p0_0 >>> ((2 : Int32) &&& 31)) &&& (1 : Int32)) = (0 : Int32)
    · refine ⟨_, _, Xo0_12, Nfo0_12, eo0_12, fun target kt => ?_⟩
      rw [(show (own_j0_2 p0_0) = (0 : Int32) from if_pos hj0_14)] at kt
      show Steps p.tables e below (To0_12.setTop (mkF m 57 #[.val (.int p0_0), .val (.int p0_1), .val (.int p0_2), .val (.int p0_3), .val (.int p0_4), .val (.int p0_5), .val (.ref bn0_1), .val (.ref bn0_3), .val (.ref bn0_5), .unset, .unset, .unset] [(.int ((p0_0 >>> ((2 : Int32) &&& 31)) &&& (1 : Int32))), (.int (2 : Int32)), (.ref bn0_1)])) _
      refine XS.ifYes Xo0_12.here hx rfl (pc0 := 57) (pc' := 64) rfl (hb hby at_57) rfl (XT.i0_eq_t hj0_14) (by decide) (by decide) ?_
      show Steps p.tables e below (To0_12.setTop (mkF m 64 #[.val (.int p0_0), .val (.int p0_1), .val (.int p0_2), .val (.int p0_3), .val (.int p0_4), .val (.int p0_5), .val (.ref bn0_1), .val (.ref bn0_3), .val (.ref bn0_5), .unset, .unset, .unset] [(.int (2 : Int32)), (.ref bn0_1)])) _
      refine XS.iconst Xo0_12.here hx rfl (hb hby at_64) ?_
      exact kt
    · refine ⟨_, _, Xo0_12, Nfo0_12, eo0_12, fun target kt => ?_⟩
      rw [(show (own_j0_2 p0_0) = (1 : Int32) from if_neg hj0_14)] at kt
      show Steps p.tables e below (To0_12.setTop (mkF m 57 #[.val (.int p0_0), .val (.int p0_1), .val (.int p0_2), .val (.int p0_3), .val (.int p0_4), .val (.int p0_5), .val (.ref bn0_1), .val (.ref bn0_3), .val (.ref bn0_5), .unset, .unset, .unset] [(.int ((p0_0 >>> ((2 : Int32) &&& 31)) &&& (1 : Int32))), (.int (2 : Int32)), (.ref bn0_1)])) _
      refine XS.ifNo Xo0_12.here hx rfl (hb hby at_57) rfl (XT.i0_eq_f hj0_14) ?_
      show Steps p.tables e below (To0_12.setTop (mkF m 60 #[.val (.int p0_0), .val (.int p0_1), .val (.int p0_2), .val (.int p0_3), .val (.int p0_4), .val (.int p0_5), .val (.ref bn0_1), .val (.ref bn0_3), .val (.ref bn0_5), .unset, .unset, .unset] [(.int (2 : Int32)), (.ref bn0_1)])) _
      refine XS.iconst Xo0_12.here hx rfl (hb hby at_60) ?_
      show Steps p.tables e below (To0_12.setTop (mkF m 61 #[.val (.int p0_0), .val (.int p0_1), .val (.int p0_2), .val (.int p0_3), .val (.int p0_4), .val (.int p0_5), .val (.ref bn0_1), .val (.ref bn0_3), .val (.ref bn0_5), .unset, .unset, .unset] [(.int (1 : Int32)), (.int (2 : Int32)), (.ref bn0_1)])) _
      refine XS.goto Xo0_12.here hx rfl (pc0 := 61) (pc' := 65) rfl (hb hby at_61) (by decide) (by decide) ?_
      exact kt
  have Oo0_15 := Vwo0_12
  obtain ⟨clo0_15, Aro0_15, qo0_15, So0_15, No0_15, Ho0_15, Go0_15⟩ := Oo0_15
  have hino0_15 : ¬ ((2 : Int32) < 0 ∨ clo0_15.slots.size ≤ ((2 : Int32)).toNatClampNeg) := inb_of So0_15 ⟨by decide, by decide⟩
  obtain ⟨To0_15, ho0_15, Xo0_15, eo0_15, Wo0_15, sto0_15⟩ := stZ Xj0_14 hx hZ ej0_14 Aro0_15 (j := (2 : Int32)) hino0_15 (g := (mkF m 65 #[.val (.int p0_0), .val (.int p0_1), .val (.int p0_2), .val (.int p0_3), .val (.int p0_4), .val (.int p0_5), .val (.ref bn0_1), .val (.ref bn0_3), .val (.ref bn0_5), .unset, .unset, .unset] [(.int (own_j0_2 p0_0)), (.int (2 : Int32)), (.ref bn0_1)])) rfl rfl (hb hby at_65)
  have Vwo0_15 : Arv Z ho0_15 bn0_1 kn0_1 .boolean (4 : Int32) [(.int (nar .boolean (own_j0_0 p0_0))), (.int (nar .boolean (own_j0_1 p0_0))), (.int (nar .boolean (own_j0_2 p0_0))), (.int (0 : Int32))] (.int (0 : Int32)) := Arv.set Aro0_15 qo0_15 So0_15 No0_15 Ho0_15 Go0_15 (fits_nar_bool _) Wo0_15 2 rfl (Nat.le_of_ble_eq_true rfl)
  have sz0_16 : h0.size ≤ ho0_15.size := Nat.le_trans sz0_13 (Nat.le_of_eq Wo0_15.size.symm)
  have Nfo0_15 := Fr.snoc Xo0_15 Nj0_14 g_bn0_1
  obtain ⟨Tj0_17, lj0_17, Xj0_17, Nj0_17, ej0_17, stj0_17⟩ : ∃ (T' : State) (l' : List Loc), Stand p l e room_1 s m #[(.int p0_0), (.int p0_1), (.int p0_2), (.int p0_3), (.int p0_4), (.int p0_5)] below meth c T' l' 3 12 ∧ Fr n0 l' ∧ T'.heap = ho0_15 ∧ ∀ target, Steps p.tables e below (T'.setTop (mkF m 82 #[.val (.int p0_0), .val (.int p0_1), .val (.int p0_2), .val (.int p0_3), .val (.int p0_4), .val (.int p0_5), .val (.ref bn0_1), .val (.ref bn0_3), .val (.ref bn0_5), .unset, .unset, .unset] [(.int (own_j0_3 p0_0)), (.int (3 : Int32)), (.ref bn0_1)])) target → Steps p.tables e below (To0_15.setTop (mkF m 74 #[.val (.int p0_0), .val (.int p0_1), .val (.int p0_2), .val (.int p0_3), .val (.int p0_4), .val (.int p0_5), .val (.ref bn0_1), .val (.ref bn0_3), .val (.ref bn0_5), .unset, .unset, .unset] [(.int ((p0_0 >>> ((3 : Int32) &&& 31)) &&& (1 : Int32))), (.int (3 : Int32)), (.ref bn0_1)])) target := by
    by_cases hj0_17 : ((p0_0 >>> ((3 : Int32) &&& 31)) &&& (1 : Int32)) = (0 : Int32)
    · refine ⟨_, _, Xo0_15, Nfo0_15, eo0_15, fun target kt => ?_⟩
      rw [(show (own_j0_3 p0_0) = (0 : Int32) from if_pos hj0_17)] at kt
      show Steps p.tables e below (To0_15.setTop (mkF m 74 #[.val (.int p0_0), .val (.int p0_1), .val (.int p0_2), .val (.int p0_3), .val (.int p0_4), .val (.int p0_5), .val (.ref bn0_1), .val (.ref bn0_3), .val (.ref bn0_5), .unset, .unset, .unset] [(.int ((p0_0 >>> ((3 : Int32) &&& 31)) &&& (1 : Int32))), (.int (3 : Int32)), (.ref bn0_1)])) _
      refine XS.ifYes Xo0_15.here hx rfl (pc0 := 74) (pc' := 81) rfl (hb hby at_74) rfl (XT.i0_eq_t hj0_17) (by decide) (by decide) ?_
      show Steps p.tables e below (To0_15.setTop (mkF m 81 #[.val (.int p0_0), .val (.int p0_1), .val (.int p0_2), .val (.int p0_3), .val (.int p0_4), .val (.int p0_5), .val (.ref bn0_1), .val (.ref bn0_3), .val (.ref bn0_5), .unset, .unset, .unset] [(.int (3 : Int32)), (.ref bn0_1)])) _
      refine XS.iconst Xo0_15.here hx rfl (hb hby at_81) ?_
      exact kt
    · refine ⟨_, _, Xo0_15, Nfo0_15, eo0_15, fun target kt => ?_⟩
      rw [(show (own_j0_3 p0_0) = (1 : Int32) from if_neg hj0_17)] at kt
      show Steps p.tables e below (To0_15.setTop (mkF m 74 #[.val (.int p0_0), .val (.int p0_1), .val (.int p0_2), .val (.int p0_3), .val (.int p0_4), .val (.int p0_5), .val (.ref bn0_1), .val (.ref bn0_3), .val (.ref bn0_5), .unset, .unset, .unset] [(.int ((p0_0 >>> ((3 : Int32) &&& 31)) &&& (1 : Int32))), (.int (3 : Int32)), (.ref bn0_1)])) _
      refine XS.ifNo Xo0_15.here hx rfl (hb hby at_74) rfl (XT.i0_eq_f hj0_17) ?_
      show Steps p.tables e below (To0_15.setTop (mkF m 77 #[.val (.int p0_0), .val (.int p0_1), .val (.int p0_2), .val (.int p0_3), .val (.int p0_4), .val (.int p0_5), .val (.ref bn0_1), .val (.ref bn0_3), .val (.ref bn0_5), .unset, .unset, .unset] [(.int (3 : Int32)), (.ref bn0_1)])) _
      refine XS.iconst Xo0_15.here hx rfl (hb hby at_77) ?_
      show Steps p.tables e below (To0_15.setTop (mkF m 78 #[.val (.int p0_0), .val (.int p0_1), .val (.int p0_2), .val (.int p0_3), .val (.int p0_4), .val (.int p0_5), .val (.ref bn0_1), .val (.ref bn0_3), .val (.ref bn0_5), .unset, .unset, .unset] [(.int (1 : Int32)), (.int (3 : Int32)), (.ref bn0_1)])) _
      refine XS.goto Xo0_15.here hx rfl (pc0 := 78) (pc' := 82) rfl (hb hby at_78) (by decide) (by decide) ?_
      exact kt
  have Oo0_18 := Vwo0_15
  obtain ⟨clo0_18, Aro0_18, qo0_18, So0_18, No0_18, Ho0_18, Go0_18⟩ := Oo0_18
  have hino0_18 : ¬ ((3 : Int32) < 0 ∨ clo0_18.slots.size ≤ ((3 : Int32)).toNatClampNeg) := inb_of So0_18 ⟨by decide, by decide⟩
  obtain ⟨To0_18, ho0_18, Xo0_18, eo0_18, Wo0_18, sto0_18⟩ := stZ Xj0_17 hx hZ ej0_17 Aro0_18 (j := (3 : Int32)) hino0_18 (g := (mkF m 82 #[.val (.int p0_0), .val (.int p0_1), .val (.int p0_2), .val (.int p0_3), .val (.int p0_4), .val (.int p0_5), .val (.ref bn0_1), .val (.ref bn0_3), .val (.ref bn0_5), .unset, .unset, .unset] [(.int (own_j0_3 p0_0)), (.int (3 : Int32)), (.ref bn0_1)])) rfl rfl (hb hby at_82)
  have Vwo0_18 : Arv Z ho0_18 bn0_1 kn0_1 .boolean (4 : Int32) [(.int (nar .boolean (own_j0_0 p0_0))), (.int (nar .boolean (own_j0_1 p0_0))), (.int (nar .boolean (own_j0_2 p0_0))), (.int (nar .boolean (own_j0_3 p0_0)))] (.int (0 : Int32)) := Arv.set Aro0_18 qo0_18 So0_18 No0_18 Ho0_18 Go0_18 (fits_nar_bool _) Wo0_18 3 rfl (Nat.le_of_ble_eq_true rfl)
  have sz0_19 : h0.size ≤ ho0_18.size := Nat.le_trans sz0_16 (Nat.le_of_eq Wo0_18.size.symm)
  have Nfo0_18 := Fr.snoc Xo0_18 Nj0_17 g_bn0_1
  obtain ⟨_, _, ⟨Tk0_20, Lk0_20, kk0_20, nk0_20⟩, -, Xk0_20, ⟨Lck0_20, hQk0_20, lk0_20, yk0_20, zk0_20⟩, stk0_20⟩ := Jvm.LawKit.callS Xo0_18 hx (y := (⟨"com/example/arborway/arborway/sim/WalkOverPinLaw", "delayOf", "(III)D"⟩ : MethodName)) hown (mvT hZ (hw _ (List.mem_of_getElem? (i := 3) rfl))) (mvT hZ (hw _ (List.mem_of_getElem? (i := 4) rfl))) (mvT hZ (hw _ (List.mem_of_getElem? (i := 5) rfl))) (mvT hZ (hw _ (List.mem_of_getElem? (i := 6) rfl))) (by decide) (backOf (W := 2) (own_rm1 l Z a0 hw [] p0_0 (0 : Int32) p0_1 ho0_18 n0 (Nat.le_trans Z0 sz0_19)) hZ (hw _ (List.mem_of_getElem? (i := 6) rfl)) (hw _ (List.mem_of_getElem? (i := 5) rfl)) (by decide) (by decide)) (g := (mkF m 89 #[.val (.int p0_0), .val (.int p0_1), .val (.int p0_2), .val (.int p0_3), .val (.int p0_4), .val (.int p0_5), .val (.ref bn0_1), .val (.ref bn0_3), .val (.ref bn0_5), .unset, .unset, .unset] [(.int p0_1), (.int (0 : Int32)), (.int p0_0), (.int (0 : Int32)), (.ref bn0_3)])) rfl (by rw [hml]; rfl) (argsL := [(.int p0_0), (.int (0 : Int32)), (.int p0_1)]) (rest := [(.int (0 : Int32)), (.ref bn0_3)]) (lenOf own_pd2 rfl) rfl (by show 2 * 0 + _ ≤ _; exact Nat.le_of_eq rfl) (hb hby at_89) (fun _ _ => ⟨rfl, eo0_18, (by decide : 3 + 0 ≤ _), (by decide : 12 + 0 ≤ _)⟩)
  dsimp only [Pt.U, Pt.locs, Pt.cells, Pt.slots] at Xk0_20 lk0_20 yk0_20 zk0_20 stk0_20 hQk0_20
  replace lk0_20 := lk0_20.symm; replace yk0_20 := yk0_20.symm; replace zk0_20 := zk0_20.symm; subst lk0_20 yk0_20 zk0_20
  obtain ⟨rfl, Nk0_20q, ek0_20⟩ := hQk0_20
  have Nk0_20 := Fr.app Nfo0_18 Nk0_20q
  have ne0_21 : bn0_1 ≠ bn0_3 := (Ne.symm (Ne.symm (Nat.ne_of_lt (Nat.lt_of_lt_of_le V_bn0_1.lt (Nat.le_of_eq gn0_3.symm)))))
  have F0_22 := (((((V_bn0_3.ext En0_5).other Wo0_9 (Ne.symm ne0_21)).other Wo0_12 (Ne.symm ne0_21)).other Wo0_15 (Ne.symm ne0_21)).other Wo0_18 (Ne.symm ne0_21))
  have Oo0_23 := F0_22
  obtain ⟨clo0_23, Aro0_23, qo0_23, So0_23, No0_23, Ho0_23, Go0_23⟩ := Oo0_23
  have hino0_23 : ¬ ((0 : Int32) < 0 ∨ clo0_23.slots.size ≤ ((0 : Int32)).toNatClampNeg) := inb_of So0_23 ⟨by decide, by decide⟩
  obtain ⟨To0_23, ho0_23, Xo0_23, eo0_23, Wo0_23, sto0_23⟩ := stD Xk0_20 hx hZ ek0_20 Aro0_23 (j := (0 : Int32)) hino0_23 (g := (mkF m 92 #[.val (.int p0_0), .val (.int p0_1), .val (.int p0_2), .val (.int p0_3), .val (.int p0_4), .val (.int p0_5), .val (.ref bn0_1), .val (.ref bn0_3), .val (.ref bn0_5), .unset, .unset, .unset] [(.double (own_r1_0 p0_0 (0 : Int32) p0_1)), (.int (0 : Int32)), (.ref bn0_3)])) rfl rfl (hb hby at_92)
  have Vwo0_23 : Arv Z ho0_23 bn0_3 kn0_3 .double (4 : Int32) [(.double (own_v0_4 p0_0 p0_1)), (.double (0 : UInt64)), (.double (0 : UInt64)), (.double (0 : UInt64))] (.double (0 : UInt64)) := Arv.set Aro0_23 qo0_23 So0_23 No0_23 Ho0_23 Go0_23 rfl Wo0_23 0 rfl (Nat.le_of_ble_eq_true rfl)
  have sz0_24 : h0.size ≤ ho0_23.size := Nat.le_trans sz0_19 (Nat.le_of_eq Wo0_23.size.symm)
  have Nfo0_23 := Fr.snoc Xo0_23 Nk0_20 g_bn0_3
  obtain ⟨_, _, ⟨Tk0_25, Lk0_25, kk0_25, nk0_25⟩, -, Xk0_25, ⟨Lck0_25, hQk0_25, lk0_25, yk0_25, zk0_25⟩, stk0_25⟩ := Jvm.LawKit.callS Xo0_23 hx (y := (⟨"com/example/arborway/arborway/sim/WalkOverPinLaw", "delayOf", "(III)D"⟩ : MethodName)) hown (mvT hZ (hw _ (List.mem_of_getElem? (i := 3) rfl))) (mvT hZ (hw _ (List.mem_of_getElem? (i := 4) rfl))) (mvT hZ (hw _ (List.mem_of_getElem? (i := 5) rfl))) (mvT hZ (hw _ (List.mem_of_getElem? (i := 6) rfl))) (by decide) (backOf (W := 2) (own_rm1 l Z a0 hw [] p0_0 (1 : Int32) p0_2 ho0_23 n0 (Nat.le_trans Z0 sz0_24)) hZ (hw _ (List.mem_of_getElem? (i := 6) rfl)) (hw _ (List.mem_of_getElem? (i := 5) rfl)) (by decide) (by decide)) (g := (mkF m 99 #[.val (.int p0_0), .val (.int p0_1), .val (.int p0_2), .val (.int p0_3), .val (.int p0_4), .val (.int p0_5), .val (.ref bn0_1), .val (.ref bn0_3), .val (.ref bn0_5), .unset, .unset, .unset] [(.int p0_2), (.int (1 : Int32)), (.int p0_0), (.int (1 : Int32)), (.ref bn0_3)])) rfl (by rw [hml]; rfl) (argsL := [(.int p0_0), (.int (1 : Int32)), (.int p0_2)]) (rest := [(.int (1 : Int32)), (.ref bn0_3)]) (lenOf own_pd2 rfl) rfl (by show 2 * 0 + _ ≤ _; exact Nat.le_of_eq rfl) (hb hby at_99) (fun _ _ => ⟨rfl, eo0_23, (by decide : 3 + 0 ≤ _), (by decide : 12 + 0 ≤ _)⟩)
  dsimp only [Pt.U, Pt.locs, Pt.cells, Pt.slots] at Xk0_25 lk0_25 yk0_25 zk0_25 stk0_25 hQk0_25
  replace lk0_25 := lk0_25.symm; replace yk0_25 := yk0_25.symm; replace zk0_25 := zk0_25.symm; subst lk0_25 yk0_25 zk0_25
  obtain ⟨rfl, Nk0_25q, ek0_25⟩ := hQk0_25
  have Nk0_25 := Fr.app Nfo0_23 Nk0_25q
  have Oo0_26 := Vwo0_23
  obtain ⟨clo0_26, Aro0_26, qo0_26, So0_26, No0_26, Ho0_26, Go0_26⟩ := Oo0_26
  have hino0_26 : ¬ ((1 : Int32) < 0 ∨ clo0_26.slots.size ≤ ((1 : Int32)).toNatClampNeg) := inb_of So0_26 ⟨by decide, by decide⟩
  obtain ⟨To0_26, ho0_26, Xo0_26, eo0_26, Wo0_26, sto0_26⟩ := stD Xk0_25 hx hZ ek0_25 Aro0_26 (j := (1 : Int32)) hino0_26 (g := (mkF m 102 #[.val (.int p0_0), .val (.int p0_1), .val (.int p0_2), .val (.int p0_3), .val (.int p0_4), .val (.int p0_5), .val (.ref bn0_1), .val (.ref bn0_3), .val (.ref bn0_5), .unset, .unset, .unset] [(.double (own_r1_0 p0_0 (1 : Int32) p0_2)), (.int (1 : Int32)), (.ref bn0_3)])) rfl rfl (hb hby at_102)
  have Vwo0_26 : Arv Z ho0_26 bn0_3 kn0_3 .double (4 : Int32) [(.double (own_v0_4 p0_0 p0_1)), (.double (own_v0_5 p0_0 p0_2)), (.double (0 : UInt64)), (.double (0 : UInt64))] (.double (0 : UInt64)) := Arv.set Aro0_26 qo0_26 So0_26 No0_26 Ho0_26 Go0_26 rfl Wo0_26 1 rfl (Nat.le_of_ble_eq_true rfl)
  have sz0_27 : h0.size ≤ ho0_26.size := Nat.le_trans sz0_24 (Nat.le_of_eq Wo0_26.size.symm)
  have Nfo0_26 := Fr.snoc Xo0_26 Nk0_25 g_bn0_3
  obtain ⟨_, _, ⟨Tk0_28, Lk0_28, kk0_28, nk0_28⟩, -, Xk0_28, ⟨Lck0_28, hQk0_28, lk0_28, yk0_28, zk0_28⟩, stk0_28⟩ := Jvm.LawKit.callS Xo0_26 hx (y := (⟨"com/example/arborway/arborway/sim/WalkOverPinLaw", "delayOf", "(III)D"⟩ : MethodName)) hown (mvT hZ (hw _ (List.mem_of_getElem? (i := 3) rfl))) (mvT hZ (hw _ (List.mem_of_getElem? (i := 4) rfl))) (mvT hZ (hw _ (List.mem_of_getElem? (i := 5) rfl))) (mvT hZ (hw _ (List.mem_of_getElem? (i := 6) rfl))) (by decide) (backOf (W := 2) (own_rm1 l Z a0 hw [] p0_0 (2 : Int32) p0_3 ho0_26 n0 (Nat.le_trans Z0 sz0_27)) hZ (hw _ (List.mem_of_getElem? (i := 6) rfl)) (hw _ (List.mem_of_getElem? (i := 5) rfl)) (by decide) (by decide)) (g := (mkF m 109 #[.val (.int p0_0), .val (.int p0_1), .val (.int p0_2), .val (.int p0_3), .val (.int p0_4), .val (.int p0_5), .val (.ref bn0_1), .val (.ref bn0_3), .val (.ref bn0_5), .unset, .unset, .unset] [(.int p0_3), (.int (2 : Int32)), (.int p0_0), (.int (2 : Int32)), (.ref bn0_3)])) rfl (by rw [hml]; rfl) (argsL := [(.int p0_0), (.int (2 : Int32)), (.int p0_3)]) (rest := [(.int (2 : Int32)), (.ref bn0_3)]) (lenOf own_pd2 rfl) rfl (by show 2 * 0 + _ ≤ _; exact Nat.le_of_eq rfl) (hb hby at_109) (fun _ _ => ⟨rfl, eo0_26, (by decide : 3 + 0 ≤ _), (by decide : 12 + 0 ≤ _)⟩)
  dsimp only [Pt.U, Pt.locs, Pt.cells, Pt.slots] at Xk0_28 lk0_28 yk0_28 zk0_28 stk0_28 hQk0_28
  replace lk0_28 := lk0_28.symm; replace yk0_28 := yk0_28.symm; replace zk0_28 := zk0_28.symm; subst lk0_28 yk0_28 zk0_28
  obtain ⟨rfl, Nk0_28q, ek0_28⟩ := hQk0_28
  have Nk0_28 := Fr.app Nfo0_26 Nk0_28q
  have Oo0_29 := Vwo0_26
  obtain ⟨clo0_29, Aro0_29, qo0_29, So0_29, No0_29, Ho0_29, Go0_29⟩ := Oo0_29
  have hino0_29 : ¬ ((2 : Int32) < 0 ∨ clo0_29.slots.size ≤ ((2 : Int32)).toNatClampNeg) := inb_of So0_29 ⟨by decide, by decide⟩
  obtain ⟨To0_29, ho0_29, Xo0_29, eo0_29, Wo0_29, sto0_29⟩ := stD Xk0_28 hx hZ ek0_28 Aro0_29 (j := (2 : Int32)) hino0_29 (g := (mkF m 112 #[.val (.int p0_0), .val (.int p0_1), .val (.int p0_2), .val (.int p0_3), .val (.int p0_4), .val (.int p0_5), .val (.ref bn0_1), .val (.ref bn0_3), .val (.ref bn0_5), .unset, .unset, .unset] [(.double (own_r1_0 p0_0 (2 : Int32) p0_3)), (.int (2 : Int32)), (.ref bn0_3)])) rfl rfl (hb hby at_112)
  have Vwo0_29 : Arv Z ho0_29 bn0_3 kn0_3 .double (4 : Int32) [(.double (own_v0_4 p0_0 p0_1)), (.double (own_v0_5 p0_0 p0_2)), (.double (own_v0_6 p0_0 p0_3)), (.double (0 : UInt64))] (.double (0 : UInt64)) := Arv.set Aro0_29 qo0_29 So0_29 No0_29 Ho0_29 Go0_29 rfl Wo0_29 2 rfl (Nat.le_of_ble_eq_true rfl)
  have sz0_30 : h0.size ≤ ho0_29.size := Nat.le_trans sz0_27 (Nat.le_of_eq Wo0_29.size.symm)
  have Nfo0_29 := Fr.snoc Xo0_29 Nk0_28 g_bn0_3
  obtain ⟨_, _, ⟨Tk0_31, Lk0_31, kk0_31, nk0_31⟩, -, Xk0_31, ⟨Lck0_31, hQk0_31, lk0_31, yk0_31, zk0_31⟩, stk0_31⟩ := Jvm.LawKit.callS Xo0_29 hx (y := (⟨"com/example/arborway/arborway/sim/WalkOverPinLaw", "delayOf", "(III)D"⟩ : MethodName)) hown (mvT hZ (hw _ (List.mem_of_getElem? (i := 3) rfl))) (mvT hZ (hw _ (List.mem_of_getElem? (i := 4) rfl))) (mvT hZ (hw _ (List.mem_of_getElem? (i := 5) rfl))) (mvT hZ (hw _ (List.mem_of_getElem? (i := 6) rfl))) (by decide) (backOf (W := 2) (own_rm1 l Z a0 hw [] p0_0 (3 : Int32) p0_4 ho0_29 n0 (Nat.le_trans Z0 sz0_30)) hZ (hw _ (List.mem_of_getElem? (i := 6) rfl)) (hw _ (List.mem_of_getElem? (i := 5) rfl)) (by decide) (by decide)) (g := (mkF m 120 #[.val (.int p0_0), .val (.int p0_1), .val (.int p0_2), .val (.int p0_3), .val (.int p0_4), .val (.int p0_5), .val (.ref bn0_1), .val (.ref bn0_3), .val (.ref bn0_5), .unset, .unset, .unset] [(.int p0_4), (.int (3 : Int32)), (.int p0_0), (.int (3 : Int32)), (.ref bn0_3)])) rfl (by rw [hml]; rfl) (argsL := [(.int p0_0), (.int (3 : Int32)), (.int p0_4)]) (rest := [(.int (3 : Int32)), (.ref bn0_3)]) (lenOf own_pd2 rfl) rfl (by show 2 * 0 + _ ≤ _; exact Nat.le_of_eq rfl) (hb hby at_120) (fun _ _ => ⟨rfl, eo0_29, (by decide : 3 + 0 ≤ _), (by decide : 12 + 0 ≤ _)⟩)
  dsimp only [Pt.U, Pt.locs, Pt.cells, Pt.slots] at Xk0_31 lk0_31 yk0_31 zk0_31 stk0_31 hQk0_31
  replace lk0_31 := lk0_31.symm; replace yk0_31 := yk0_31.symm; replace zk0_31 := zk0_31.symm; subst lk0_31 yk0_31 zk0_31
  obtain ⟨rfl, Nk0_31q, ek0_31⟩ := hQk0_31
  have Nk0_31 := Fr.app Nfo0_29 Nk0_31q
  have Oo0_32 := Vwo0_29
  obtain ⟨clo0_32, Aro0_32, qo0_32, So0_32, No0_32, Ho0_32, Go0_32⟩ := Oo0_32
  have hino0_32 : ¬ ((3 : Int32) < 0 ∨ clo0_32.slots.size ≤ ((3 : Int32)).toNatClampNeg) := inb_of So0_32 ⟨by decide, by decide⟩
  obtain ⟨To0_32, ho0_32, Xo0_32, eo0_32, Wo0_32, sto0_32⟩ := stD Xk0_31 hx hZ ek0_31 Aro0_32 (j := (3 : Int32)) hino0_32 (g := (mkF m 123 #[.val (.int p0_0), .val (.int p0_1), .val (.int p0_2), .val (.int p0_3), .val (.int p0_4), .val (.int p0_5), .val (.ref bn0_1), .val (.ref bn0_3), .val (.ref bn0_5), .unset, .unset, .unset] [(.double (own_r1_0 p0_0 (3 : Int32) p0_4)), (.int (3 : Int32)), (.ref bn0_3)])) rfl rfl (hb hby at_123)
  have Vwo0_32 : Arv Z ho0_32 bn0_3 kn0_3 .double (4 : Int32) [(.double (own_v0_4 p0_0 p0_1)), (.double (own_v0_5 p0_0 p0_2)), (.double (own_v0_6 p0_0 p0_3)), (.double (own_v0_7 p0_0 p0_4))] (.double (0 : UInt64)) := Arv.set Aro0_32 qo0_32 So0_32 No0_32 Ho0_32 Go0_32 rfl Wo0_32 3 rfl (Nat.le_of_ble_eq_true rfl)
  have sz0_33 : h0.size ≤ ho0_32.size := Nat.le_trans sz0_30 (Nat.le_of_eq Wo0_32.size.symm)
  have Nfo0_32 := Fr.snoc Xo0_32 Nk0_31 g_bn0_3
  obtain ⟨_, _, ⟨Tk0_34, Lk0_34, kk0_34, nk0_34⟩, -, Xk0_34, ⟨Lck0_34, hQk0_34, lk0_34, yk0_34, zk0_34⟩, stk0_34⟩ := Jvm.LawKit.callS Xo0_32 hx (y := (⟨"com/example/arborway/arborway/sim/WalkOverPinLaw", "depthOf", "(II)I"⟩ : MethodName)) hown (mvT hZ (hw _ (List.mem_of_getElem? (i := 10) rfl))) (mvT hZ (hw _ (List.mem_of_getElem? (i := 11) rfl))) (mvT hZ (hw _ (List.mem_of_getElem? (i := 5) rfl))) (mvT hZ (hw _ (List.mem_of_getElem? (i := 12) rfl))) (by decide) (backOf (W := 2) (own_rm3 l Z a0 hw [] p0_0 (0 : Int32) ho0_32 n0 (Nat.le_trans Z0 sz0_33)) hZ (hw _ (List.mem_of_getElem? (i := 12) rfl)) (hw _ (List.mem_of_getElem? (i := 5) rfl)) (by decide) (by decide)) (g := (mkF m 129 #[.val (.int p0_0), .val (.int p0_1), .val (.int p0_2), .val (.int p0_3), .val (.int p0_4), .val (.int p0_5), .val (.ref bn0_1), .val (.ref bn0_3), .val (.ref bn0_5), .unset, .unset, .unset] [(.int (0 : Int32)), (.int p0_0), (.int (0 : Int32)), (.ref bn0_5)])) rfl (by rw [hml]; rfl) (argsL := [(.int p0_0), (.int (0 : Int32))]) (rest := [(.int (0 : Int32)), (.ref bn0_5)]) (lenOf own_pd3 rfl) rfl (by show 2 * 0 + _ ≤ _; exact Nat.le_of_eq rfl) (hb hby at_129) (fun _ _ => ⟨rfl, eo0_32, (by decide : 3 + 0 ≤ _), (by decide : 12 + 0 ≤ _)⟩)
  dsimp only [Pt.U, Pt.locs, Pt.cells, Pt.slots] at Xk0_34 lk0_34 yk0_34 zk0_34 stk0_34 hQk0_34
  replace lk0_34 := lk0_34.symm; replace yk0_34 := yk0_34.symm; replace zk0_34 := zk0_34.symm; subst lk0_34 yk0_34 zk0_34
  obtain ⟨rfl, Nk0_34q, ek0_34⟩ := hQk0_34
  have Nk0_34 := Fr.app Nfo0_32 Nk0_34q
  have ne0_35 : bn0_1 ≠ bn0_5 := (Ne.symm (Ne.symm (Nat.ne_of_lt (Nat.lt_of_lt_of_le (V_bn0_1.ext En0_3).lt (Nat.le_of_eq gn0_5.symm)))))
  have ne0_36 : bn0_3 ≠ bn0_5 := (Ne.symm (Ne.symm (Nat.ne_of_lt (Nat.lt_of_lt_of_le V_bn0_3.lt (Nat.le_of_eq gn0_5.symm)))))
  have F0_37 := ((((((((V_bn0_5.other Wo0_9 (Ne.symm ne0_35)).other Wo0_12 (Ne.symm ne0_35)).other Wo0_15 (Ne.symm ne0_35)).other Wo0_18 (Ne.symm ne0_35)).other Wo0_23 (Ne.symm ne0_36)).other Wo0_26 (Ne.symm ne0_36)).other Wo0_29 (Ne.symm ne0_36)).other Wo0_32 (Ne.symm ne0_36))
  have Oo0_38 := F0_37
  obtain ⟨clo0_38, Aro0_38, qo0_38, So0_38, No0_38, Ho0_38, Go0_38⟩ := Oo0_38
  have hino0_38 : ¬ ((0 : Int32) < 0 ∨ clo0_38.slots.size ≤ ((0 : Int32)).toNatClampNeg) := inb_of So0_38 ⟨by decide, by decide⟩
  obtain ⟨To0_38, ho0_38, Xo0_38, eo0_38, Wo0_38, sto0_38⟩ := stI Xk0_34 hx hZ ek0_34 Aro0_38 (j := (0 : Int32)) hino0_38 (g := (mkF m 132 #[.val (.int p0_0), .val (.int p0_1), .val (.int p0_2), .val (.int p0_3), .val (.int p0_4), .val (.int p0_5), .val (.ref bn0_1), .val (.ref bn0_3), .val (.ref bn0_5), .unset, .unset, .unset] [(.int (own_j3_0 p0_0 (0 : Int32))), (.int (0 : Int32)), (.ref bn0_5)])) rfl rfl (hb hby at_132)
  have Vwo0_38 : Arv Z ho0_38 bn0_5 kn0_5 .int (4 : Int32) [(.int (own_j3_0 p0_0 (0 : Int32))), (.int (0 : Int32)), (.int (0 : Int32)), (.int (0 : Int32))] (.int (0 : Int32)) := Arv.set Aro0_38 qo0_38 So0_38 No0_38 Ho0_38 Go0_38 rfl Wo0_38 0 rfl (Nat.le_of_ble_eq_true rfl)
  have sz0_39 : h0.size ≤ ho0_38.size := Nat.le_trans sz0_33 (Nat.le_of_eq Wo0_38.size.symm)
  have Nfo0_38 := Fr.snoc Xo0_38 Nk0_34 g_bn0_5
  obtain ⟨_, _, ⟨Tk0_40, Lk0_40, kk0_40, nk0_40⟩, -, Xk0_40, ⟨Lck0_40, hQk0_40, lk0_40, yk0_40, zk0_40⟩, stk0_40⟩ := Jvm.LawKit.callS Xo0_38 hx (y := (⟨"com/example/arborway/arborway/sim/WalkOverPinLaw", "depthOf", "(II)I"⟩ : MethodName)) hown (mvT hZ (hw _ (List.mem_of_getElem? (i := 10) rfl))) (mvT hZ (hw _ (List.mem_of_getElem? (i := 11) rfl))) (mvT hZ (hw _ (List.mem_of_getElem? (i := 5) rfl))) (mvT hZ (hw _ (List.mem_of_getElem? (i := 12) rfl))) (by decide) (backOf (W := 2) (own_rm3 l Z a0 hw [] p0_0 (1 : Int32) ho0_38 n0 (Nat.le_trans Z0 sz0_39)) hZ (hw _ (List.mem_of_getElem? (i := 12) rfl)) (hw _ (List.mem_of_getElem? (i := 5) rfl)) (by decide) (by decide)) (g := (mkF m 138 #[.val (.int p0_0), .val (.int p0_1), .val (.int p0_2), .val (.int p0_3), .val (.int p0_4), .val (.int p0_5), .val (.ref bn0_1), .val (.ref bn0_3), .val (.ref bn0_5), .unset, .unset, .unset] [(.int (1 : Int32)), (.int p0_0), (.int (1 : Int32)), (.ref bn0_5)])) rfl (by rw [hml]; rfl) (argsL := [(.int p0_0), (.int (1 : Int32))]) (rest := [(.int (1 : Int32)), (.ref bn0_5)]) (lenOf own_pd3 rfl) rfl (by show 2 * 0 + _ ≤ _; exact Nat.le_of_eq rfl) (hb hby at_138) (fun _ _ => ⟨rfl, eo0_38, (by decide : 3 + 0 ≤ _), (by decide : 12 + 0 ≤ _)⟩)
  dsimp only [Pt.U, Pt.locs, Pt.cells, Pt.slots] at Xk0_40 lk0_40 yk0_40 zk0_40 stk0_40 hQk0_40
  replace lk0_40 := lk0_40.symm; replace yk0_40 := yk0_40.symm; replace zk0_40 := zk0_40.symm; subst lk0_40 yk0_40 zk0_40
  obtain ⟨rfl, Nk0_40q, ek0_40⟩ := hQk0_40
  have Nk0_40 := Fr.app Nfo0_38 Nk0_40q
  have Oo0_41 := Vwo0_38
  obtain ⟨clo0_41, Aro0_41, qo0_41, So0_41, No0_41, Ho0_41, Go0_41⟩ := Oo0_41
  have hino0_41 : ¬ ((1 : Int32) < 0 ∨ clo0_41.slots.size ≤ ((1 : Int32)).toNatClampNeg) := inb_of So0_41 ⟨by decide, by decide⟩
  obtain ⟨To0_41, ho0_41, Xo0_41, eo0_41, Wo0_41, sto0_41⟩ := stI Xk0_40 hx hZ ek0_40 Aro0_41 (j := (1 : Int32)) hino0_41 (g := (mkF m 141 #[.val (.int p0_0), .val (.int p0_1), .val (.int p0_2), .val (.int p0_3), .val (.int p0_4), .val (.int p0_5), .val (.ref bn0_1), .val (.ref bn0_3), .val (.ref bn0_5), .unset, .unset, .unset] [(.int (own_j3_0 p0_0 (1 : Int32))), (.int (1 : Int32)), (.ref bn0_5)])) rfl rfl (hb hby at_141)
  have Vwo0_41 : Arv Z ho0_41 bn0_5 kn0_5 .int (4 : Int32) [(.int (own_j3_0 p0_0 (0 : Int32))), (.int (own_j3_0 p0_0 (1 : Int32))), (.int (0 : Int32)), (.int (0 : Int32))] (.int (0 : Int32)) := Arv.set Aro0_41 qo0_41 So0_41 No0_41 Ho0_41 Go0_41 rfl Wo0_41 1 rfl (Nat.le_of_ble_eq_true rfl)
  have sz0_42 : h0.size ≤ ho0_41.size := Nat.le_trans sz0_39 (Nat.le_of_eq Wo0_41.size.symm)
  have Nfo0_41 := Fr.snoc Xo0_41 Nk0_40 g_bn0_5
  obtain ⟨_, _, ⟨Tk0_43, Lk0_43, kk0_43, nk0_43⟩, -, Xk0_43, ⟨Lck0_43, hQk0_43, lk0_43, yk0_43, zk0_43⟩, stk0_43⟩ := Jvm.LawKit.callS Xo0_41 hx (y := (⟨"com/example/arborway/arborway/sim/WalkOverPinLaw", "depthOf", "(II)I"⟩ : MethodName)) hown (mvT hZ (hw _ (List.mem_of_getElem? (i := 10) rfl))) (mvT hZ (hw _ (List.mem_of_getElem? (i := 11) rfl))) (mvT hZ (hw _ (List.mem_of_getElem? (i := 5) rfl))) (mvT hZ (hw _ (List.mem_of_getElem? (i := 12) rfl))) (by decide) (backOf (W := 2) (own_rm3 l Z a0 hw [] p0_0 (2 : Int32) ho0_41 n0 (Nat.le_trans Z0 sz0_42)) hZ (hw _ (List.mem_of_getElem? (i := 12) rfl)) (hw _ (List.mem_of_getElem? (i := 5) rfl)) (by decide) (by decide)) (g := (mkF m 147 #[.val (.int p0_0), .val (.int p0_1), .val (.int p0_2), .val (.int p0_3), .val (.int p0_4), .val (.int p0_5), .val (.ref bn0_1), .val (.ref bn0_3), .val (.ref bn0_5), .unset, .unset, .unset] [(.int (2 : Int32)), (.int p0_0), (.int (2 : Int32)), (.ref bn0_5)])) rfl (by rw [hml]; rfl) (argsL := [(.int p0_0), (.int (2 : Int32))]) (rest := [(.int (2 : Int32)), (.ref bn0_5)]) (lenOf own_pd3 rfl) rfl (by show 2 * 0 + _ ≤ _; exact Nat.le_of_eq rfl) (hb hby at_147) (fun _ _ => ⟨rfl, eo0_41, (by decide : 3 + 0 ≤ _), (by decide : 12 + 0 ≤ _)⟩)
  dsimp only [Pt.U, Pt.locs, Pt.cells, Pt.slots] at Xk0_43 lk0_43 yk0_43 zk0_43 stk0_43 hQk0_43
  replace lk0_43 := lk0_43.symm; replace yk0_43 := yk0_43.symm; replace zk0_43 := zk0_43.symm; subst lk0_43 yk0_43 zk0_43
  obtain ⟨rfl, Nk0_43q, ek0_43⟩ := hQk0_43
  have Nk0_43 := Fr.app Nfo0_41 Nk0_43q
  have Oo0_44 := Vwo0_41
  obtain ⟨clo0_44, Aro0_44, qo0_44, So0_44, No0_44, Ho0_44, Go0_44⟩ := Oo0_44
  have hino0_44 : ¬ ((2 : Int32) < 0 ∨ clo0_44.slots.size ≤ ((2 : Int32)).toNatClampNeg) := inb_of So0_44 ⟨by decide, by decide⟩
  obtain ⟨To0_44, ho0_44, Xo0_44, eo0_44, Wo0_44, sto0_44⟩ := stI Xk0_43 hx hZ ek0_43 Aro0_44 (j := (2 : Int32)) hino0_44 (g := (mkF m 150 #[.val (.int p0_0), .val (.int p0_1), .val (.int p0_2), .val (.int p0_3), .val (.int p0_4), .val (.int p0_5), .val (.ref bn0_1), .val (.ref bn0_3), .val (.ref bn0_5), .unset, .unset, .unset] [(.int (own_j3_0 p0_0 (2 : Int32))), (.int (2 : Int32)), (.ref bn0_5)])) rfl rfl (hb hby at_150)
  have Vwo0_44 : Arv Z ho0_44 bn0_5 kn0_5 .int (4 : Int32) [(.int (own_j3_0 p0_0 (0 : Int32))), (.int (own_j3_0 p0_0 (1 : Int32))), (.int (own_j3_0 p0_0 (2 : Int32))), (.int (0 : Int32))] (.int (0 : Int32)) := Arv.set Aro0_44 qo0_44 So0_44 No0_44 Ho0_44 Go0_44 rfl Wo0_44 2 rfl (Nat.le_of_ble_eq_true rfl)
  have sz0_45 : h0.size ≤ ho0_44.size := Nat.le_trans sz0_42 (Nat.le_of_eq Wo0_44.size.symm)
  have Nfo0_44 := Fr.snoc Xo0_44 Nk0_43 g_bn0_5
  obtain ⟨_, _, ⟨Tk0_46, Lk0_46, kk0_46, nk0_46⟩, -, Xk0_46, ⟨Lck0_46, hQk0_46, lk0_46, yk0_46, zk0_46⟩, stk0_46⟩ := Jvm.LawKit.callS Xo0_44 hx (y := (⟨"com/example/arborway/arborway/sim/WalkOverPinLaw", "depthOf", "(II)I"⟩ : MethodName)) hown (mvT hZ (hw _ (List.mem_of_getElem? (i := 10) rfl))) (mvT hZ (hw _ (List.mem_of_getElem? (i := 11) rfl))) (mvT hZ (hw _ (List.mem_of_getElem? (i := 5) rfl))) (mvT hZ (hw _ (List.mem_of_getElem? (i := 12) rfl))) (by decide) (backOf (W := 2) (own_rm3 l Z a0 hw [] p0_0 (3 : Int32) ho0_44 n0 (Nat.le_trans Z0 sz0_45)) hZ (hw _ (List.mem_of_getElem? (i := 12) rfl)) (hw _ (List.mem_of_getElem? (i := 5) rfl)) (by decide) (by decide)) (g := (mkF m 156 #[.val (.int p0_0), .val (.int p0_1), .val (.int p0_2), .val (.int p0_3), .val (.int p0_4), .val (.int p0_5), .val (.ref bn0_1), .val (.ref bn0_3), .val (.ref bn0_5), .unset, .unset, .unset] [(.int (3 : Int32)), (.int p0_0), (.int (3 : Int32)), (.ref bn0_5)])) rfl (by rw [hml]; rfl) (argsL := [(.int p0_0), (.int (3 : Int32))]) (rest := [(.int (3 : Int32)), (.ref bn0_5)]) (lenOf own_pd3 rfl) rfl (by show 2 * 0 + _ ≤ _; exact Nat.le_of_eq rfl) (hb hby at_156) (fun _ _ => ⟨rfl, eo0_44, (by decide : 3 + 0 ≤ _), (by decide : 12 + 0 ≤ _)⟩)
  dsimp only [Pt.U, Pt.locs, Pt.cells, Pt.slots] at Xk0_46 lk0_46 yk0_46 zk0_46 stk0_46 hQk0_46
  replace lk0_46 := lk0_46.symm; replace yk0_46 := yk0_46.symm; replace zk0_46 := zk0_46.symm; subst lk0_46 yk0_46 zk0_46
  obtain ⟨rfl, Nk0_46q, ek0_46⟩ := hQk0_46
  have Nk0_46 := Fr.app Nfo0_44 Nk0_46q
  have Oo0_47 := Vwo0_44
  obtain ⟨clo0_47, Aro0_47, qo0_47, So0_47, No0_47, Ho0_47, Go0_47⟩ := Oo0_47
  have hino0_47 : ¬ ((3 : Int32) < 0 ∨ clo0_47.slots.size ≤ ((3 : Int32)).toNatClampNeg) := inb_of So0_47 ⟨by decide, by decide⟩
  obtain ⟨To0_47, ho0_47, Xo0_47, eo0_47, Wo0_47, sto0_47⟩ := stI Xk0_46 hx hZ ek0_46 Aro0_47 (j := (3 : Int32)) hino0_47 (g := (mkF m 159 #[.val (.int p0_0), .val (.int p0_1), .val (.int p0_2), .val (.int p0_3), .val (.int p0_4), .val (.int p0_5), .val (.ref bn0_1), .val (.ref bn0_3), .val (.ref bn0_5), .unset, .unset, .unset] [(.int (own_j3_0 p0_0 (3 : Int32))), (.int (3 : Int32)), (.ref bn0_5)])) rfl rfl (hb hby at_159)
  have Vwo0_47 : Arv Z ho0_47 bn0_5 kn0_5 .int (4 : Int32) [(.int (own_j3_0 p0_0 (0 : Int32))), (.int (own_j3_0 p0_0 (1 : Int32))), (.int (own_j3_0 p0_0 (2 : Int32))), (.int (own_j3_0 p0_0 (3 : Int32)))] (.int (0 : Int32)) := Arv.set Aro0_47 qo0_47 So0_47 No0_47 Ho0_47 Go0_47 rfl Wo0_47 3 rfl (Nat.le_of_ble_eq_true rfl)
  have sz0_48 : h0.size ≤ ho0_47.size := Nat.le_trans sz0_45 (Nat.le_of_eq Wo0_47.size.symm)
  have Nfo0_47 := Fr.snoc Xo0_47 Nk0_46 g_bn0_5
  obtain ⟨Tn0_49, hn0_49, Xn0_49, en0_49, En0_49, An0_49, Dn0_49, -, stn0_49⟩ := newO Xo0_47 hx hZ hown (hw _ (List.mem_of_getElem? (i := 13) rfl)) (hw _ (List.mem_of_getElem? (i := 14) rfl)) (hw _ (List.mem_of_getElem? (i := 15) rfl)) eo0_47 (g := (mkF m 160 #[.val (.int p0_0), .val (.int p0_1), .val (.int p0_2), .val (.int p0_3), .val (.int p0_4), .val (.int p0_5), .val (.ref bn0_1), .val (.ref bn0_3), .val (.ref bn0_5), .unset, .unset, .unset] [])) rfl (hb hby at_160) (by decide) (by decide)
  obtain ⟨bn0_49, gn0_49⟩ : ∃ z, z = ho0_47.size := ⟨_, rfl⟩
  rw [← gn0_49] at An0_49 Dn0_49 stn0_49
  have g_bn0_49 : n0 ≤ bn0_49 := Nat.le_trans (Nat.le_trans Z0 sz0_48) (Nat.le_of_eq gn0_49.symm)
  have sz_bn0_49 : h0.size ≤ bn0_49 := Nat.le_trans sz0_48 (Nat.le_of_eq gn0_49.symm)
  have sz0_50 : h0.size ≤ hn0_49.size := Nat.le_trans sz0_48 En0_49.1
  have F_depth_bn0_49 : Fld Z hn0_49 bn0_49 "com/example/arborway/arborway/sim/RunTally$Walk" "depth" "[I" .null := Dn0_49 (Or.inr (hw _ (List.mem_of_getElem? (i := 28) rfl))) (ty := (.array .int)) (by decide)
  have F_rootDelayMs_bn0_49 : Fld Z hn0_49 bn0_49 "com/example/arborway/arborway/sim/RunTally$Walk" "rootDelayMs" "[D" .null := Dn0_49 (Or.inr (hw _ (List.mem_of_getElem? (i := 30) rfl))) (ty := (.array .double)) (by decide)
  have F_running_bn0_49 : Fld Z hn0_49 bn0_49 "com/example/arborway/arborway/sim/RunTally$Walk" "running" "[Z" .null := Dn0_49 (Or.inr (hw _ (List.mem_of_getElem? (i := 32) rfl))) (ty := (.array .boolean)) (by decide)
  have F_costMs_bn0_49 : Fld Z hn0_49 bn0_49 "com/example/arborway/arborway/sim/RunTally$Walk" "costMs" "D" (.double (0 : UInt64)) := Dn0_49 (Or.inr (hw _ (List.mem_of_getElem? (i := 34) rfl))) (ty := .double) (by decide)
  obtain ⟨_, _, ⟨Tk0_51, Lk0_51, kk0_51, nk0_51⟩, -, Xk0_51, ⟨Lck0_51, hQk0_51, lk0_51, yk0_51, zk0_51⟩, stk0_51⟩ := Xn0_49.specialBack hx (y := (⟨"com/example/arborway/arborway/sim/RunTally$Walk", "<init>", "([I[D[ZD)V"⟩ : MethodName)) rfl hown (mvT hZ (hw _ (List.mem_of_getElem? (i := 16) rfl))) (mvT hZ (hw _ (List.mem_of_getElem? (i := 17) rfl))) (mvT hZ (hw _ (List.mem_of_getElem? (i := 18) rfl))) (by decide) (backOf (W := 1) (own_rm4 l Z a0 hw [] bn0_49 bn0_5 bn0_3 bn0_1 (0 : UInt64) .null .null .null (.double (0 : UInt64)) hn0_49 n0 (Nat.le_trans Z0 sz0_50) An0_49 F_depth_bn0_49 g_bn0_49 F_rootDelayMs_bn0_49 F_running_bn0_49 F_costMs_bn0_49) hZ (hw _ (List.mem_of_getElem? (i := 18) rfl)) (hw _ (List.mem_of_getElem? (i := 15) rfl)) (by decide) (by decide)) (g := (mkF m 171 #[.val (.int p0_0), .val (.int p0_1), .val (.int p0_2), .val (.int p0_3), .val (.int p0_4), .val (.int p0_5), .val (.ref bn0_1), .val (.ref bn0_3), .val (.ref bn0_5), .unset, .unset, .unset] [(.double (0 : UInt64)), (.ref bn0_1), (.ref bn0_3), (.ref bn0_5), (.ref bn0_49), (.ref bn0_49)])) rfl (by rw [hml]; rfl) (Steps.refl _) (a := bn0_49) (argsL := [(.ref bn0_5), (.ref bn0_3), (.ref bn0_1), (.double (0 : UInt64))]) (rest := [(.ref bn0_49)]) (lenOf own_pd4 rfl) rfl (by show 2 * 0 + _ ≤ _; exact Nat.le_of_eq rfl) (hb hby at_171) (fun _ _ => ⟨rfl, en0_49, (by decide : 4 + 0 ≤ _), (by decide : 16 + 0 ≤ _)⟩)
  dsimp only [Pt.U, Pt.locs, Pt.cells, Pt.slots] at Xk0_51 lk0_51 yk0_51 zk0_51 stk0_51 hQk0_51
  replace lk0_51 := lk0_51.symm; replace yk0_51 := yk0_51.symm; replace zk0_51 := zk0_51.symm; subst lk0_51 yk0_51 zk0_51
  obtain ⟨rfl, Nk0_51q, Kk0_51, Qk0_51_0, Qk0_51_1, Qk0_51_2, Qk0_51_3, Qk0_51_4⟩ := hQk0_51
  have sz0_52 : h0.size ≤ Tk0_51.heap.size := Nat.le_trans sz0_50 Kk0_51.1
  have Nk0_51 := Fr.app Nfo0_47 Nk0_51q
  have ne0_54 : bn0_1 ≠ bn0_49 := (Nat.ne_of_lt (Nat.lt_of_lt_of_le ((((((((Vwo0_18.other Wo0_23 ne0_21).other Wo0_26 ne0_21).other Wo0_29 ne0_21).other Wo0_32 ne0_21).other Wo0_38 ne0_35).other Wo0_41 ne0_35).other Wo0_44 ne0_35).other Wo0_47 ne0_35).lt (Nat.le_of_eq gn0_49.symm)))
  have F0_55 := ((((((((((Vwo0_18.other Wo0_23 ne0_21).other Wo0_26 ne0_21).other Wo0_29 ne0_21).other Wo0_32 ne0_21).other Wo0_38 ne0_35).other Wo0_41 ne0_35).other Wo0_44 ne0_35).other Wo0_47 ne0_35).ext En0_49).keep Kk0_51 (ninS ne0_54 nin0))
  have ne0_56 : bn0_3 ≠ bn0_49 := (Nat.ne_of_lt (Nat.lt_of_lt_of_le ((((Vwo0_32.other Wo0_38 ne0_36).other Wo0_41 ne0_36).other Wo0_44 ne0_36).other Wo0_47 ne0_36).lt (Nat.le_of_eq gn0_49.symm)))
  have F0_57 := ((((((Vwo0_32.other Wo0_38 ne0_36).other Wo0_41 ne0_36).other Wo0_44 ne0_36).other Wo0_47 ne0_36).ext En0_49).keep Kk0_51 (ninS ne0_56 nin0))
  obtain ⟨cqk0_53, kqk0_53, qk0_53a, qk0_53b, qk0_53c⟩ := isOf hZ rfl Qk0_51_0
  obtain ⟨_, _, ⟨Tk0_53, Lk0_53, kk0_53, nk0_53⟩, -, Xk0_53, ⟨Lck0_53, hQk0_53, lk0_53, yk0_53, zk0_53⟩, stk0_53⟩ := Xk0_51.virtualBack hx (y := (⟨"com/example/arborway/arborway/sim/RunTally$Walk", "over", "(D)I"⟩ : MethodName)) (z := (⟨"com/example/arborway/arborway/sim/RunTally$Walk", "over", "(D)I"⟩ : MethodName)) hown (mvT hZ (hw _ (List.mem_of_getElem? (i := 35) rfl))) (mvT hZ (hw _ (List.mem_of_getElem? (i := 36) rfl))) (notFace_of_selects (args := #[]) (mvT hZ (hw _ (List.mem_of_getElem? (i := 38) rfl)))) (mvT hZ (hw _ (List.mem_of_getElem? (i := 38) rfl))) (mvT hZ (hw _ (List.mem_of_getElem? (i := 37) rfl))) (by decide) (backOf (W := 0) (own_rm7 l Z a0 hw [] bn0_49 (FP.i2d p0_5) bn0_1 kn0_1 (nar .boolean (own_j0_0 p0_0)) (nar .boolean (own_j0_1 p0_0)) (nar .boolean (own_j0_2 p0_0)) (nar .boolean (own_j0_3 p0_0)) bn0_3 kn0_3 (own_v0_4 p0_0 p0_1) (own_v0_5 p0_0 p0_2) (own_v0_6 p0_0 p0_3) (own_v0_7 p0_0 p0_4) Tk0_51.heap n0 (Nat.le_trans Z0 sz0_52) Qk0_51_3 F0_55 Qk0_51_2 F0_57) hZ (hw _ (List.mem_of_getElem? (i := 39) rfl)) (hw _ (List.mem_of_getElem? (i := 15) rfl)) (by decide) (by decide)) qk0_53a qk0_53c (g := (mkF m 181 #[.val (.int p0_0), .val (.int p0_1), .val (.int p0_2), .val (.int p0_3), .val (.int p0_4), .val (.int p0_5), .val (.ref bn0_1), .val (.ref bn0_3), .val (.ref bn0_5), .val (.ref bn0_49), .unset, .unset] [(.double (FP.i2d p0_5)), (.ref bn0_49)])) rfl (by rw [hml]; rfl) (Steps.refl _) (argsL := [(.double (FP.i2d p0_5))]) (rest := []) (lenOf own_pd5 rfl) rfl (by show 2 * 0 + _ ≤ _; exact Nat.le_of_eq rfl) (hb hby at_181) (fun _ _ => ⟨rfl, rfl, (by decide : 4 + 0 ≤ _), (by decide : 16 + 0 ≤ _)⟩)
  dsimp only [Pt.U, Pt.locs, Pt.cells, Pt.slots] at Xk0_53 lk0_53 yk0_53 zk0_53 stk0_53 hQk0_53
  replace lk0_53 := lk0_53.symm; replace yk0_53 := yk0_53.symm; replace zk0_53 := zk0_53.symm; subst lk0_53 yk0_53 zk0_53
  obtain ⟨rfl, Nk0_53q, ek0_53⟩ := hQk0_53
  have Nk0_53 := Fr.app Nk0_51 Nk0_53q
  obtain ⟨_, _, ⟨Tk0_58, Lk0_58, kk0_58, nk0_58⟩, -, Xk0_58, ⟨Lck0_58, hQk0_58, lk0_58, yk0_58, zk0_58⟩, stk0_58⟩ := Jvm.LawKit.callS Xk0_53 hx (y := (⟨"com/example/arborway/arborway/sim/WalkOverPinLaw", "expect", "(IIII)I"⟩ : MethodName)) hown (mvT hZ (hw _ (List.mem_of_getElem? (i := 40) rfl))) (mvT hZ (hw _ (List.mem_of_getElem? (i := 41) rfl))) (mvT hZ (hw _ (List.mem_of_getElem? (i := 5) rfl))) (mvT hZ (hw _ (List.mem_of_getElem? (i := 42) rfl))) (by decide) (backOf (W := 0) (own_rm8 l Z a0 hw [] p0_0 (0 : Int32) p0_1 p0_5 Tk0_51.heap n0 (Nat.le_trans Z0 sz0_52)) hZ (hw _ (List.mem_of_getElem? (i := 42) rfl)) (hw _ (List.mem_of_getElem? (i := 5) rfl)) (by decide) (by decide)) (g := (mkF m 191 #[.val (.int p0_0), .val (.int p0_1), .val (.int p0_2), .val (.int p0_3), .val (.int p0_4), .val (.int p0_5), .val (.ref bn0_1), .val (.ref bn0_3), .val (.ref bn0_5), .val (.ref bn0_49), .val (.int (own_v0_8 p0_0 p0_1 p0_2 p0_3 p0_4 p0_5)), .unset] [(.int p0_5), (.int p0_1), (.int (0 : Int32)), (.int p0_0)])) rfl (by rw [hml]; rfl) (argsL := [(.int p0_0), (.int (0 : Int32)), (.int p0_1), (.int p0_5)]) (rest := []) (lenOf own_pd6 rfl) rfl (by show 2 * 0 + _ ≤ _; exact Nat.le_of_eq rfl) (hb hby at_191) (fun _ _ => ⟨rfl, ek0_53, (by decide : 4 + 0 ≤ _), (by decide : 16 + 0 ≤ _)⟩)
  dsimp only [Pt.U, Pt.locs, Pt.cells, Pt.slots] at Xk0_58 lk0_58 yk0_58 zk0_58 stk0_58 hQk0_58
  replace lk0_58 := lk0_58.symm; replace yk0_58 := yk0_58.symm; replace zk0_58 := zk0_58.symm; subst lk0_58 yk0_58 zk0_58
  obtain ⟨rfl, Nk0_58q, ek0_58⟩ := hQk0_58
  have Nk0_58 := Fr.app Nk0_53 Nk0_58q
  obtain ⟨_, _, ⟨Tk0_59, Lk0_59, kk0_59, nk0_59⟩, -, Xk0_59, ⟨Lck0_59, hQk0_59, lk0_59, yk0_59, zk0_59⟩, stk0_59⟩ := Jvm.LawKit.callS Xk0_58 hx (y := (⟨"com/example/arborway/arborway/sim/WalkOverPinLaw", "expect", "(IIII)I"⟩ : MethodName)) hown (mvT hZ (hw _ (List.mem_of_getElem? (i := 40) rfl))) (mvT hZ (hw _ (List.mem_of_getElem? (i := 41) rfl))) (mvT hZ (hw _ (List.mem_of_getElem? (i := 5) rfl))) (mvT hZ (hw _ (List.mem_of_getElem? (i := 42) rfl))) (by decide) (backOf (W := 1) (own_rm8 l Z a0 hw [] p0_0 (1 : Int32) p0_2 p0_5 Tk0_51.heap n0 (Nat.le_trans Z0 sz0_52)) hZ (hw _ (List.mem_of_getElem? (i := 42) rfl)) (hw _ (List.mem_of_getElem? (i := 5) rfl)) (by decide) (by decide)) (g := (mkF m 199 #[.val (.int p0_0), .val (.int p0_1), .val (.int p0_2), .val (.int p0_3), .val (.int p0_4), .val (.int p0_5), .val (.ref bn0_1), .val (.ref bn0_3), .val (.ref bn0_5), .val (.ref bn0_49), .val (.int (own_v0_8 p0_0 p0_1 p0_2 p0_3 p0_4 p0_5)), .unset] [(.int p0_5), (.int p0_2), (.int (1 : Int32)), (.int p0_0), (.int (own_r8_0 p0_0 (0 : Int32) p0_1 p0_5))])) rfl (by rw [hml]; rfl) (argsL := [(.int p0_0), (.int (1 : Int32)), (.int p0_2), (.int p0_5)]) (rest := [(.int (own_r8_0 p0_0 (0 : Int32) p0_1 p0_5))]) (lenOf own_pd6 rfl) rfl (by show 2 * 0 + _ ≤ _; exact Nat.le_of_eq rfl) (hb hby at_199) (fun _ _ => ⟨rfl, ek0_58, (by decide : 4 + 0 ≤ _), (by decide : 16 + 0 ≤ _)⟩)
  dsimp only [Pt.U, Pt.locs, Pt.cells, Pt.slots] at Xk0_59 lk0_59 yk0_59 zk0_59 stk0_59 hQk0_59
  replace lk0_59 := lk0_59.symm; replace yk0_59 := yk0_59.symm; replace zk0_59 := zk0_59.symm; subst lk0_59 yk0_59 zk0_59
  obtain ⟨rfl, Nk0_59q, ek0_59⟩ := hQk0_59
  have Nk0_59 := Fr.app Nk0_58 Nk0_59q
  obtain ⟨_, _, ⟨Tk0_60, Lk0_60, kk0_60, nk0_60⟩, -, Xk0_60, ⟨Lck0_60, hQk0_60, lk0_60, yk0_60, zk0_60⟩, stk0_60⟩ := Jvm.LawKit.callS Xk0_59 hx (y := (⟨"com/example/arborway/arborway/sim/WalkOverPinLaw", "expect", "(IIII)I"⟩ : MethodName)) hown (mvT hZ (hw _ (List.mem_of_getElem? (i := 40) rfl))) (mvT hZ (hw _ (List.mem_of_getElem? (i := 41) rfl))) (mvT hZ (hw _ (List.mem_of_getElem? (i := 5) rfl))) (mvT hZ (hw _ (List.mem_of_getElem? (i := 42) rfl))) (by decide) (backOf (W := 1) (own_rm8 l Z a0 hw [] p0_0 (2 : Int32) p0_3 p0_5 Tk0_51.heap n0 (Nat.le_trans Z0 sz0_52)) hZ (hw _ (List.mem_of_getElem? (i := 42) rfl)) (hw _ (List.mem_of_getElem? (i := 5) rfl)) (by decide) (by decide)) (g := (mkF m 208 #[.val (.int p0_0), .val (.int p0_1), .val (.int p0_2), .val (.int p0_3), .val (.int p0_4), .val (.int p0_5), .val (.ref bn0_1), .val (.ref bn0_3), .val (.ref bn0_5), .val (.ref bn0_49), .val (.int (own_v0_8 p0_0 p0_1 p0_2 p0_3 p0_4 p0_5)), .unset] [(.int p0_5), (.int p0_3), (.int (2 : Int32)), (.int p0_0), (.int ((own_r8_0 p0_0 (0 : Int32) p0_1 p0_5) + (own_r8_0 p0_0 (1 : Int32) p0_2 p0_5)))])) rfl (by rw [hml]; rfl) (argsL := [(.int p0_0), (.int (2 : Int32)), (.int p0_3), (.int p0_5)]) (rest := [(.int ((own_r8_0 p0_0 (0 : Int32) p0_1 p0_5) + (own_r8_0 p0_0 (1 : Int32) p0_2 p0_5)))]) (lenOf own_pd6 rfl) rfl (by show 2 * 0 + _ ≤ _; exact Nat.le_of_eq rfl) (hb hby at_208) (fun _ _ => ⟨rfl, ek0_59, (by decide : 4 + 0 ≤ _), (by decide : 16 + 0 ≤ _)⟩)
  dsimp only [Pt.U, Pt.locs, Pt.cells, Pt.slots] at Xk0_60 lk0_60 yk0_60 zk0_60 stk0_60 hQk0_60
  replace lk0_60 := lk0_60.symm; replace yk0_60 := yk0_60.symm; replace zk0_60 := zk0_60.symm; subst lk0_60 yk0_60 zk0_60
  obtain ⟨rfl, Nk0_60q, ek0_60⟩ := hQk0_60
  have Nk0_60 := Fr.app Nk0_59 Nk0_60q
  obtain ⟨_, _, ⟨Tk0_61, Lk0_61, kk0_61, nk0_61⟩, -, Xk0_61, ⟨Lck0_61, hQk0_61, lk0_61, yk0_61, zk0_61⟩, stk0_61⟩ := Jvm.LawKit.callS Xk0_60 hx (y := (⟨"com/example/arborway/arborway/sim/WalkOverPinLaw", "expect", "(IIII)I"⟩ : MethodName)) hown (mvT hZ (hw _ (List.mem_of_getElem? (i := 40) rfl))) (mvT hZ (hw _ (List.mem_of_getElem? (i := 41) rfl))) (mvT hZ (hw _ (List.mem_of_getElem? (i := 5) rfl))) (mvT hZ (hw _ (List.mem_of_getElem? (i := 42) rfl))) (by decide) (backOf (W := 1) (own_rm8 l Z a0 hw [] p0_0 (3 : Int32) p0_4 p0_5 Tk0_51.heap n0 (Nat.le_trans Z0 sz0_52)) hZ (hw _ (List.mem_of_getElem? (i := 42) rfl)) (hw _ (List.mem_of_getElem? (i := 5) rfl)) (by decide) (by decide)) (g := (mkF m 218 #[.val (.int p0_0), .val (.int p0_1), .val (.int p0_2), .val (.int p0_3), .val (.int p0_4), .val (.int p0_5), .val (.ref bn0_1), .val (.ref bn0_3), .val (.ref bn0_5), .val (.ref bn0_49), .val (.int (own_v0_8 p0_0 p0_1 p0_2 p0_3 p0_4 p0_5)), .unset] [(.int p0_5), (.int p0_4), (.int (3 : Int32)), (.int p0_0), (.int (((own_r8_0 p0_0 (0 : Int32) p0_1 p0_5) + (own_r8_0 p0_0 (1 : Int32) p0_2 p0_5)) + (own_r8_0 p0_0 (2 : Int32) p0_3 p0_5)))])) rfl (by rw [hml]; rfl) (argsL := [(.int p0_0), (.int (3 : Int32)), (.int p0_4), (.int p0_5)]) (rest := [(.int (((own_r8_0 p0_0 (0 : Int32) p0_1 p0_5) + (own_r8_0 p0_0 (1 : Int32) p0_2 p0_5)) + (own_r8_0 p0_0 (2 : Int32) p0_3 p0_5)))]) (lenOf own_pd6 rfl) rfl (by show 2 * 0 + _ ≤ _; exact Nat.le_of_eq rfl) (hb hby at_218) (fun _ _ => ⟨rfl, ek0_60, (by decide : 4 + 0 ≤ _), (by decide : 16 + 0 ≤ _)⟩)
  dsimp only [Pt.U, Pt.locs, Pt.cells, Pt.slots] at Xk0_61 lk0_61 yk0_61 zk0_61 stk0_61 hQk0_61
  replace lk0_61 := lk0_61.symm; replace yk0_61 := yk0_61.symm; replace zk0_61 := zk0_61.symm; subst lk0_61 yk0_61 zk0_61
  obtain ⟨rfl, Nk0_61q, ek0_61⟩ := hQk0_61
  have Nk0_61 := Fr.app Nk0_60 Nk0_61q
  obtain ⟨fs, hr, hrun, hended, hW, hsame⟩ := Xk0_61.leave (v := some (.int (1 : Int32))) (fun h => by rw [Bd.returns] at h; cases h)
  refine ⟨_, _, pre0 _ (?_), hrun, hended, _, _, rfl, ?_, ⟨_, rfl⟩, hW, hsame.mono (by decide) (by decide)⟩
  · show Steps p.tables e below (s₁.setTop (mkF m 0 #[.val (.int p0_0), .val (.int p0_1), .val (.int p0_2), .val (.int p0_3), .val (.int p0_4), .val (.int p0_5), .unset, .unset, .unset, .unset, .unset, .unset] [])) _
    refine XS.iconst X0.here hx rfl (hb hby at_0) ?_
    show Steps p.tables e below (s₁.setTop (mkF m 1 #[.val (.int p0_0), .val (.int p0_1), .val (.int p0_2), .val (.int p0_3), .val (.int p0_4), .val (.int p0_5), .unset, .unset, .unset, .unset, .unset, .unset] [(.int (4 : Int32))])) _
    refine stn0_1 _ ?_
    show Steps p.tables e below (Tn0_1.setTop (mkF m 3 #[.val (.int p0_0), .val (.int p0_1), .val (.int p0_2), .val (.int p0_3), .val (.int p0_4), .val (.int p0_5), .unset, .unset, .unset, .unset, .unset, .unset] [(.ref bn0_1)])) _
    refine XS.astore Xn0_1.here hx rfl (hb hby at_3) rfl rfl (l' := #[.val (.int p0_0), .val (.int p0_1), .val (.int p0_2), .val (.int p0_3), .val (.int p0_4), .val (.int p0_5), .val (.ref bn0_1), .unset, .unset, .unset, .unset, .unset]) rfl ?_
    show Steps p.tables e below (Tn0_1.setTop (mkF m 5 #[.val (.int p0_0), .val (.int p0_1), .val (.int p0_2), .val (.int p0_3), .val (.int p0_4), .val (.int p0_5), .val (.ref bn0_1), .unset, .unset, .unset, .unset, .unset] [])) _
    refine XS.iconst Xn0_1.here hx rfl (hb hby at_5) ?_
    show Steps p.tables e below (Tn0_1.setTop (mkF m 6 #[.val (.int p0_0), .val (.int p0_1), .val (.int p0_2), .val (.int p0_3), .val (.int p0_4), .val (.int p0_5), .val (.ref bn0_1), .unset, .unset, .unset, .unset, .unset] [(.int (4 : Int32))])) _
    refine stn0_3 _ ?_
    show Steps p.tables e below (Tn0_3.setTop (mkF m 8 #[.val (.int p0_0), .val (.int p0_1), .val (.int p0_2), .val (.int p0_3), .val (.int p0_4), .val (.int p0_5), .val (.ref bn0_1), .unset, .unset, .unset, .unset, .unset] [(.ref bn0_3)])) _
    refine XS.astore Xn0_3.here hx rfl (hb hby at_8) rfl rfl (l' := #[.val (.int p0_0), .val (.int p0_1), .val (.int p0_2), .val (.int p0_3), .val (.int p0_4), .val (.int p0_5), .val (.ref bn0_1), .val (.ref bn0_3), .unset, .unset, .unset, .unset]) rfl ?_
    show Steps p.tables e below (Tn0_3.setTop (mkF m 10 #[.val (.int p0_0), .val (.int p0_1), .val (.int p0_2), .val (.int p0_3), .val (.int p0_4), .val (.int p0_5), .val (.ref bn0_1), .val (.ref bn0_3), .unset, .unset, .unset, .unset] [])) _
    refine XS.iconst Xn0_3.here hx rfl (hb hby at_10) ?_
    show Steps p.tables e below (Tn0_3.setTop (mkF m 11 #[.val (.int p0_0), .val (.int p0_1), .val (.int p0_2), .val (.int p0_3), .val (.int p0_4), .val (.int p0_5), .val (.ref bn0_1), .val (.ref bn0_3), .unset, .unset, .unset, .unset] [(.int (4 : Int32))])) _
    refine stn0_5 _ ?_
    show Steps p.tables e below (Tn0_5.setTop (mkF m 13 #[.val (.int p0_0), .val (.int p0_1), .val (.int p0_2), .val (.int p0_3), .val (.int p0_4), .val (.int p0_5), .val (.ref bn0_1), .val (.ref bn0_3), .unset, .unset, .unset, .unset] [(.ref bn0_5)])) _
    refine XS.astore Xn0_5.here hx rfl (hb hby at_13) rfl rfl (l' := #[.val (.int p0_0), .val (.int p0_1), .val (.int p0_2), .val (.int p0_3), .val (.int p0_4), .val (.int p0_5), .val (.ref bn0_1), .val (.ref bn0_3), .val (.ref bn0_5), .unset, .unset, .unset]) rfl ?_
    show Steps p.tables e below (Tn0_5.setTop (mkF m 15 #[.val (.int p0_0), .val (.int p0_1), .val (.int p0_2), .val (.int p0_3), .val (.int p0_4), .val (.int p0_5), .val (.ref bn0_1), .val (.ref bn0_3), .val (.ref bn0_5), .unset, .unset, .unset] [])) _
    refine XS.aload Xn0_5.here hx rfl (hb hby at_15) rfl rfl ?_
    show Steps p.tables e below (Tn0_5.setTop (mkF m 17 #[.val (.int p0_0), .val (.int p0_1), .val (.int p0_2), .val (.int p0_3), .val (.int p0_4), .val (.int p0_5), .val (.ref bn0_1), .val (.ref bn0_3), .val (.ref bn0_5), .unset, .unset, .unset] [(.ref bn0_1)])) _
    refine XS.iconst Xn0_5.here hx rfl (hb hby at_17) ?_
    show Steps p.tables e below (Tn0_5.setTop (mkF m 18 #[.val (.int p0_0), .val (.int p0_1), .val (.int p0_2), .val (.int p0_3), .val (.int p0_4), .val (.int p0_5), .val (.ref bn0_1), .val (.ref bn0_3), .val (.ref bn0_5), .unset, .unset, .unset] [(.int (0 : Int32)), (.ref bn0_1)])) _
    refine XS.iloadN Xn0_5.here hx rfl (hb hby at_18) rfl ?_
    show Steps p.tables e below (Tn0_5.setTop (mkF m 19 #[.val (.int p0_0), .val (.int p0_1), .val (.int p0_2), .val (.int p0_3), .val (.int p0_4), .val (.int p0_5), .val (.ref bn0_1), .val (.ref bn0_3), .val (.ref bn0_5), .unset, .unset, .unset] [(.int p0_0), (.int (0 : Int32)), (.ref bn0_1)])) _
    refine XS.iconst Xn0_5.here hx rfl (hb hby at_19) ?_
    show Steps p.tables e below (Tn0_5.setTop (mkF m 20 #[.val (.int p0_0), .val (.int p0_1), .val (.int p0_2), .val (.int p0_3), .val (.int p0_4), .val (.int p0_5), .val (.ref bn0_1), .val (.ref bn0_3), .val (.ref bn0_5), .unset, .unset, .unset] [(.int (0 : Int32)), (.int p0_0), (.int (0 : Int32)), (.ref bn0_1)])) _
    refine XT.ishr Xn0_5.here hx rfl (hb hby at_20) rfl ?_
    show Steps p.tables e below (Tn0_5.setTop (mkF m 21 #[.val (.int p0_0), .val (.int p0_1), .val (.int p0_2), .val (.int p0_3), .val (.int p0_4), .val (.int p0_5), .val (.ref bn0_1), .val (.ref bn0_3), .val (.ref bn0_5), .unset, .unset, .unset] [(.int (p0_0 >>> ((0 : Int32) &&& 31))), (.int (0 : Int32)), (.ref bn0_1)])) _
    refine XS.iconst Xn0_5.here hx rfl (hb hby at_21) ?_
    show Steps p.tables e below (Tn0_5.setTop (mkF m 22 #[.val (.int p0_0), .val (.int p0_1), .val (.int p0_2), .val (.int p0_3), .val (.int p0_4), .val (.int p0_5), .val (.ref bn0_1), .val (.ref bn0_3), .val (.ref bn0_5), .unset, .unset, .unset] [(.int (1 : Int32)), (.int (p0_0 >>> ((0 : Int32) &&& 31))), (.int (0 : Int32)), (.ref bn0_1)])) _
    refine XS.iand Xn0_5.here hx rfl (hb hby at_22) rfl ?_
    show Steps p.tables e below (Tn0_5.setTop (mkF m 23 #[.val (.int p0_0), .val (.int p0_1), .val (.int p0_2), .val (.int p0_3), .val (.int p0_4), .val (.int p0_5), .val (.ref bn0_1), .val (.ref bn0_3), .val (.ref bn0_5), .unset, .unset, .unset] [(.int ((p0_0 >>> ((0 : Int32) &&& 31)) &&& (1 : Int32))), (.int (0 : Int32)), (.ref bn0_1)])) _
    refine stj0_7 _ ?_
    show Steps p.tables e below (Tj0_7.setTop (mkF m 31 #[.val (.int p0_0), .val (.int p0_1), .val (.int p0_2), .val (.int p0_3), .val (.int p0_4), .val (.int p0_5), .val (.ref bn0_1), .val (.ref bn0_3), .val (.ref bn0_5), .unset, .unset, .unset] [(.int (own_j0_0 p0_0)), (.int (0 : Int32)), (.ref bn0_1)])) _
    refine sto0_9 _ ?_
    show Steps p.tables e below (To0_9.setTop (mkF m 32 #[.val (.int p0_0), .val (.int p0_1), .val (.int p0_2), .val (.int p0_3), .val (.int p0_4), .val (.int p0_5), .val (.ref bn0_1), .val (.ref bn0_3), .val (.ref bn0_5), .unset, .unset, .unset] [])) _
    refine XS.aload Xo0_9.here hx rfl (hb hby at_32) rfl rfl ?_
    show Steps p.tables e below (To0_9.setTop (mkF m 34 #[.val (.int p0_0), .val (.int p0_1), .val (.int p0_2), .val (.int p0_3), .val (.int p0_4), .val (.int p0_5), .val (.ref bn0_1), .val (.ref bn0_3), .val (.ref bn0_5), .unset, .unset, .unset] [(.ref bn0_1)])) _
    refine XS.iconst Xo0_9.here hx rfl (hb hby at_34) ?_
    show Steps p.tables e below (To0_9.setTop (mkF m 35 #[.val (.int p0_0), .val (.int p0_1), .val (.int p0_2), .val (.int p0_3), .val (.int p0_4), .val (.int p0_5), .val (.ref bn0_1), .val (.ref bn0_3), .val (.ref bn0_5), .unset, .unset, .unset] [(.int (1 : Int32)), (.ref bn0_1)])) _
    refine XS.iloadN Xo0_9.here hx rfl (hb hby at_35) rfl ?_
    show Steps p.tables e below (To0_9.setTop (mkF m 36 #[.val (.int p0_0), .val (.int p0_1), .val (.int p0_2), .val (.int p0_3), .val (.int p0_4), .val (.int p0_5), .val (.ref bn0_1), .val (.ref bn0_3), .val (.ref bn0_5), .unset, .unset, .unset] [(.int p0_0), (.int (1 : Int32)), (.ref bn0_1)])) _
    refine XS.iconst Xo0_9.here hx rfl (hb hby at_36) ?_
    show Steps p.tables e below (To0_9.setTop (mkF m 37 #[.val (.int p0_0), .val (.int p0_1), .val (.int p0_2), .val (.int p0_3), .val (.int p0_4), .val (.int p0_5), .val (.ref bn0_1), .val (.ref bn0_3), .val (.ref bn0_5), .unset, .unset, .unset] [(.int (1 : Int32)), (.int p0_0), (.int (1 : Int32)), (.ref bn0_1)])) _
    refine XT.ishr Xo0_9.here hx rfl (hb hby at_37) rfl ?_
    show Steps p.tables e below (To0_9.setTop (mkF m 38 #[.val (.int p0_0), .val (.int p0_1), .val (.int p0_2), .val (.int p0_3), .val (.int p0_4), .val (.int p0_5), .val (.ref bn0_1), .val (.ref bn0_3), .val (.ref bn0_5), .unset, .unset, .unset] [(.int (p0_0 >>> ((1 : Int32) &&& 31))), (.int (1 : Int32)), (.ref bn0_1)])) _
    refine XS.iconst Xo0_9.here hx rfl (hb hby at_38) ?_
    show Steps p.tables e below (To0_9.setTop (mkF m 39 #[.val (.int p0_0), .val (.int p0_1), .val (.int p0_2), .val (.int p0_3), .val (.int p0_4), .val (.int p0_5), .val (.ref bn0_1), .val (.ref bn0_3), .val (.ref bn0_5), .unset, .unset, .unset] [(.int (1 : Int32)), (.int (p0_0 >>> ((1 : Int32) &&& 31))), (.int (1 : Int32)), (.ref bn0_1)])) _
    refine XS.iand Xo0_9.here hx rfl (hb hby at_39) rfl ?_
    show Steps p.tables e below (To0_9.setTop (mkF m 40 #[.val (.int p0_0), .val (.int p0_1), .val (.int p0_2), .val (.int p0_3), .val (.int p0_4), .val (.int p0_5), .val (.ref bn0_1), .val (.ref bn0_3), .val (.ref bn0_5), .unset, .unset, .unset] [(.int ((p0_0 >>> ((1 : Int32) &&& 31)) &&& (1 : Int32))), (.int (1 : Int32)), (.ref bn0_1)])) _
    refine stj0_11 _ ?_
    show Steps p.tables e below (Tj0_11.setTop (mkF m 48 #[.val (.int p0_0), .val (.int p0_1), .val (.int p0_2), .val (.int p0_3), .val (.int p0_4), .val (.int p0_5), .val (.ref bn0_1), .val (.ref bn0_3), .val (.ref bn0_5), .unset, .unset, .unset] [(.int (own_j0_1 p0_0)), (.int (1 : Int32)), (.ref bn0_1)])) _
    refine sto0_12 _ ?_
    show Steps p.tables e below (To0_12.setTop (mkF m 49 #[.val (.int p0_0), .val (.int p0_1), .val (.int p0_2), .val (.int p0_3), .val (.int p0_4), .val (.int p0_5), .val (.ref bn0_1), .val (.ref bn0_3), .val (.ref bn0_5), .unset, .unset, .unset] [])) _
    refine XS.aload Xo0_12.here hx rfl (hb hby at_49) rfl rfl ?_
    show Steps p.tables e below (To0_12.setTop (mkF m 51 #[.val (.int p0_0), .val (.int p0_1), .val (.int p0_2), .val (.int p0_3), .val (.int p0_4), .val (.int p0_5), .val (.ref bn0_1), .val (.ref bn0_3), .val (.ref bn0_5), .unset, .unset, .unset] [(.ref bn0_1)])) _
    refine XS.iconst Xo0_12.here hx rfl (hb hby at_51) ?_
    show Steps p.tables e below (To0_12.setTop (mkF m 52 #[.val (.int p0_0), .val (.int p0_1), .val (.int p0_2), .val (.int p0_3), .val (.int p0_4), .val (.int p0_5), .val (.ref bn0_1), .val (.ref bn0_3), .val (.ref bn0_5), .unset, .unset, .unset] [(.int (2 : Int32)), (.ref bn0_1)])) _
    refine XS.iloadN Xo0_12.here hx rfl (hb hby at_52) rfl ?_
    show Steps p.tables e below (To0_12.setTop (mkF m 53 #[.val (.int p0_0), .val (.int p0_1), .val (.int p0_2), .val (.int p0_3), .val (.int p0_4), .val (.int p0_5), .val (.ref bn0_1), .val (.ref bn0_3), .val (.ref bn0_5), .unset, .unset, .unset] [(.int p0_0), (.int (2 : Int32)), (.ref bn0_1)])) _
    refine XS.iconst Xo0_12.here hx rfl (hb hby at_53) ?_
    show Steps p.tables e below (To0_12.setTop (mkF m 54 #[.val (.int p0_0), .val (.int p0_1), .val (.int p0_2), .val (.int p0_3), .val (.int p0_4), .val (.int p0_5), .val (.ref bn0_1), .val (.ref bn0_3), .val (.ref bn0_5), .unset, .unset, .unset] [(.int (2 : Int32)), (.int p0_0), (.int (2 : Int32)), (.ref bn0_1)])) _
    refine XT.ishr Xo0_12.here hx rfl (hb hby at_54) rfl ?_
    show Steps p.tables e below (To0_12.setTop (mkF m 55 #[.val (.int p0_0), .val (.int p0_1), .val (.int p0_2), .val (.int p0_3), .val (.int p0_4), .val (.int p0_5), .val (.ref bn0_1), .val (.ref bn0_3), .val (.ref bn0_5), .unset, .unset, .unset] [(.int (p0_0 >>> ((2 : Int32) &&& 31))), (.int (2 : Int32)), (.ref bn0_1)])) _
    refine XS.iconst Xo0_12.here hx rfl (hb hby at_55) ?_
    show Steps p.tables e below (To0_12.setTop (mkF m 56 #[.val (.int p0_0), .val (.int p0_1), .val (.int p0_2), .val (.int p0_3), .val (.int p0_4), .val (.int p0_5), .val (.ref bn0_1), .val (.ref bn0_3), .val (.ref bn0_5), .unset, .unset, .unset] [(.int (1 : Int32)), (.int (p0_0 >>> ((2 : Int32) &&& 31))), (.int (2 : Int32)), (.ref bn0_1)])) _
    refine XS.iand Xo0_12.here hx rfl (hb hby at_56) rfl ?_
    show Steps p.tables e below (To0_12.setTop (mkF m 57 #[.val (.int p0_0), .val (.int p0_1), .val (.int p0_2), .val (.int p0_3), .val (.int p0_4), .val (.int p0_5), .val (.ref bn0_1), .val (.ref bn0_3), .val (.ref bn0_5), .unset, .unset, .unset] [(.int ((p0_0 >>> ((2 : Int32) &&& 31)) &&& (1 : Int32))), (.int (2 : Int32)), (.ref bn0_1)])) _
    refine stj0_14 _ ?_
    show Steps p.tables e below (Tj0_14.setTop (mkF m 65 #[.val (.int p0_0), .val (.int p0_1), .val (.int p0_2), .val (.int p0_3), .val (.int p0_4), .val (.int p0_5), .val (.ref bn0_1), .val (.ref bn0_3), .val (.ref bn0_5), .unset, .unset, .unset] [(.int (own_j0_2 p0_0)), (.int (2 : Int32)), (.ref bn0_1)])) _
    refine sto0_15 _ ?_
    show Steps p.tables e below (To0_15.setTop (mkF m 66 #[.val (.int p0_0), .val (.int p0_1), .val (.int p0_2), .val (.int p0_3), .val (.int p0_4), .val (.int p0_5), .val (.ref bn0_1), .val (.ref bn0_3), .val (.ref bn0_5), .unset, .unset, .unset] [])) _
    refine XS.aload Xo0_15.here hx rfl (hb hby at_66) rfl rfl ?_
    show Steps p.tables e below (To0_15.setTop (mkF m 68 #[.val (.int p0_0), .val (.int p0_1), .val (.int p0_2), .val (.int p0_3), .val (.int p0_4), .val (.int p0_5), .val (.ref bn0_1), .val (.ref bn0_3), .val (.ref bn0_5), .unset, .unset, .unset] [(.ref bn0_1)])) _
    refine XS.iconst Xo0_15.here hx rfl (hb hby at_68) ?_
    show Steps p.tables e below (To0_15.setTop (mkF m 69 #[.val (.int p0_0), .val (.int p0_1), .val (.int p0_2), .val (.int p0_3), .val (.int p0_4), .val (.int p0_5), .val (.ref bn0_1), .val (.ref bn0_3), .val (.ref bn0_5), .unset, .unset, .unset] [(.int (3 : Int32)), (.ref bn0_1)])) _
    refine XS.iloadN Xo0_15.here hx rfl (hb hby at_69) rfl ?_
    show Steps p.tables e below (To0_15.setTop (mkF m 70 #[.val (.int p0_0), .val (.int p0_1), .val (.int p0_2), .val (.int p0_3), .val (.int p0_4), .val (.int p0_5), .val (.ref bn0_1), .val (.ref bn0_3), .val (.ref bn0_5), .unset, .unset, .unset] [(.int p0_0), (.int (3 : Int32)), (.ref bn0_1)])) _
    refine XS.iconst Xo0_15.here hx rfl (hb hby at_70) ?_
    show Steps p.tables e below (To0_15.setTop (mkF m 71 #[.val (.int p0_0), .val (.int p0_1), .val (.int p0_2), .val (.int p0_3), .val (.int p0_4), .val (.int p0_5), .val (.ref bn0_1), .val (.ref bn0_3), .val (.ref bn0_5), .unset, .unset, .unset] [(.int (3 : Int32)), (.int p0_0), (.int (3 : Int32)), (.ref bn0_1)])) _
    refine XT.ishr Xo0_15.here hx rfl (hb hby at_71) rfl ?_
    show Steps p.tables e below (To0_15.setTop (mkF m 72 #[.val (.int p0_0), .val (.int p0_1), .val (.int p0_2), .val (.int p0_3), .val (.int p0_4), .val (.int p0_5), .val (.ref bn0_1), .val (.ref bn0_3), .val (.ref bn0_5), .unset, .unset, .unset] [(.int (p0_0 >>> ((3 : Int32) &&& 31))), (.int (3 : Int32)), (.ref bn0_1)])) _
    refine XS.iconst Xo0_15.here hx rfl (hb hby at_72) ?_
    show Steps p.tables e below (To0_15.setTop (mkF m 73 #[.val (.int p0_0), .val (.int p0_1), .val (.int p0_2), .val (.int p0_3), .val (.int p0_4), .val (.int p0_5), .val (.ref bn0_1), .val (.ref bn0_3), .val (.ref bn0_5), .unset, .unset, .unset] [(.int (1 : Int32)), (.int (p0_0 >>> ((3 : Int32) &&& 31))), (.int (3 : Int32)), (.ref bn0_1)])) _
    refine XS.iand Xo0_15.here hx rfl (hb hby at_73) rfl ?_
    show Steps p.tables e below (To0_15.setTop (mkF m 74 #[.val (.int p0_0), .val (.int p0_1), .val (.int p0_2), .val (.int p0_3), .val (.int p0_4), .val (.int p0_5), .val (.ref bn0_1), .val (.ref bn0_3), .val (.ref bn0_5), .unset, .unset, .unset] [(.int ((p0_0 >>> ((3 : Int32) &&& 31)) &&& (1 : Int32))), (.int (3 : Int32)), (.ref bn0_1)])) _
    refine stj0_17 _ ?_
    show Steps p.tables e below (Tj0_17.setTop (mkF m 82 #[.val (.int p0_0), .val (.int p0_1), .val (.int p0_2), .val (.int p0_3), .val (.int p0_4), .val (.int p0_5), .val (.ref bn0_1), .val (.ref bn0_3), .val (.ref bn0_5), .unset, .unset, .unset] [(.int (own_j0_3 p0_0)), (.int (3 : Int32)), (.ref bn0_1)])) _
    refine sto0_18 _ ?_
    show Steps p.tables e below (To0_18.setTop (mkF m 83 #[.val (.int p0_0), .val (.int p0_1), .val (.int p0_2), .val (.int p0_3), .val (.int p0_4), .val (.int p0_5), .val (.ref bn0_1), .val (.ref bn0_3), .val (.ref bn0_5), .unset, .unset, .unset] [])) _
    refine XS.aload Xo0_18.here hx rfl (hb hby at_83) rfl rfl ?_
    show Steps p.tables e below (To0_18.setTop (mkF m 85 #[.val (.int p0_0), .val (.int p0_1), .val (.int p0_2), .val (.int p0_3), .val (.int p0_4), .val (.int p0_5), .val (.ref bn0_1), .val (.ref bn0_3), .val (.ref bn0_5), .unset, .unset, .unset] [(.ref bn0_3)])) _
    refine XS.iconst Xo0_18.here hx rfl (hb hby at_85) ?_
    show Steps p.tables e below (To0_18.setTop (mkF m 86 #[.val (.int p0_0), .val (.int p0_1), .val (.int p0_2), .val (.int p0_3), .val (.int p0_4), .val (.int p0_5), .val (.ref bn0_1), .val (.ref bn0_3), .val (.ref bn0_5), .unset, .unset, .unset] [(.int (0 : Int32)), (.ref bn0_3)])) _
    refine XS.iloadN Xo0_18.here hx rfl (hb hby at_86) rfl ?_
    show Steps p.tables e below (To0_18.setTop (mkF m 87 #[.val (.int p0_0), .val (.int p0_1), .val (.int p0_2), .val (.int p0_3), .val (.int p0_4), .val (.int p0_5), .val (.ref bn0_1), .val (.ref bn0_3), .val (.ref bn0_5), .unset, .unset, .unset] [(.int p0_0), (.int (0 : Int32)), (.ref bn0_3)])) _
    refine XS.iconst Xo0_18.here hx rfl (hb hby at_87) ?_
    show Steps p.tables e below (To0_18.setTop (mkF m 88 #[.val (.int p0_0), .val (.int p0_1), .val (.int p0_2), .val (.int p0_3), .val (.int p0_4), .val (.int p0_5), .val (.ref bn0_1), .val (.ref bn0_3), .val (.ref bn0_5), .unset, .unset, .unset] [(.int (0 : Int32)), (.int p0_0), (.int (0 : Int32)), (.ref bn0_3)])) _
    refine XS.iloadN Xo0_18.here hx rfl (hb hby at_88) rfl ?_
    show Steps p.tables e below (To0_18.setTop (mkF m 89 #[.val (.int p0_0), .val (.int p0_1), .val (.int p0_2), .val (.int p0_3), .val (.int p0_4), .val (.int p0_5), .val (.ref bn0_1), .val (.ref bn0_3), .val (.ref bn0_5), .unset, .unset, .unset] [(.int p0_1), (.int (0 : Int32)), (.int p0_0), (.int (0 : Int32)), (.ref bn0_3)])) _
    refine stk0_20 _ ?_
    show Steps p.tables e below (Tk0_20.setTop (mkF m 92 #[.val (.int p0_0), .val (.int p0_1), .val (.int p0_2), .val (.int p0_3), .val (.int p0_4), .val (.int p0_5), .val (.ref bn0_1), .val (.ref bn0_3), .val (.ref bn0_5), .unset, .unset, .unset] [(.double (own_r1_0 p0_0 (0 : Int32) p0_1)), (.int (0 : Int32)), (.ref bn0_3)])) _
    refine sto0_23 _ ?_
    show Steps p.tables e below (To0_23.setTop (mkF m 93 #[.val (.int p0_0), .val (.int p0_1), .val (.int p0_2), .val (.int p0_3), .val (.int p0_4), .val (.int p0_5), .val (.ref bn0_1), .val (.ref bn0_3), .val (.ref bn0_5), .unset, .unset, .unset] [])) _
    refine XS.aload Xo0_23.here hx rfl (hb hby at_93) rfl rfl ?_
    show Steps p.tables e below (To0_23.setTop (mkF m 95 #[.val (.int p0_0), .val (.int p0_1), .val (.int p0_2), .val (.int p0_3), .val (.int p0_4), .val (.int p0_5), .val (.ref bn0_1), .val (.ref bn0_3), .val (.ref bn0_5), .unset, .unset, .unset] [(.ref bn0_3)])) _
    refine XS.iconst Xo0_23.here hx rfl (hb hby at_95) ?_
    show Steps p.tables e below (To0_23.setTop (mkF m 96 #[.val (.int p0_0), .val (.int p0_1), .val (.int p0_2), .val (.int p0_3), .val (.int p0_4), .val (.int p0_5), .val (.ref bn0_1), .val (.ref bn0_3), .val (.ref bn0_5), .unset, .unset, .unset] [(.int (1 : Int32)), (.ref bn0_3)])) _
    refine XS.iloadN Xo0_23.here hx rfl (hb hby at_96) rfl ?_
    show Steps p.tables e below (To0_23.setTop (mkF m 97 #[.val (.int p0_0), .val (.int p0_1), .val (.int p0_2), .val (.int p0_3), .val (.int p0_4), .val (.int p0_5), .val (.ref bn0_1), .val (.ref bn0_3), .val (.ref bn0_5), .unset, .unset, .unset] [(.int p0_0), (.int (1 : Int32)), (.ref bn0_3)])) _
    refine XS.iconst Xo0_23.here hx rfl (hb hby at_97) ?_
    show Steps p.tables e below (To0_23.setTop (mkF m 98 #[.val (.int p0_0), .val (.int p0_1), .val (.int p0_2), .val (.int p0_3), .val (.int p0_4), .val (.int p0_5), .val (.ref bn0_1), .val (.ref bn0_3), .val (.ref bn0_5), .unset, .unset, .unset] [(.int (1 : Int32)), (.int p0_0), (.int (1 : Int32)), (.ref bn0_3)])) _
    refine XS.iloadN Xo0_23.here hx rfl (hb hby at_98) rfl ?_
    show Steps p.tables e below (To0_23.setTop (mkF m 99 #[.val (.int p0_0), .val (.int p0_1), .val (.int p0_2), .val (.int p0_3), .val (.int p0_4), .val (.int p0_5), .val (.ref bn0_1), .val (.ref bn0_3), .val (.ref bn0_5), .unset, .unset, .unset] [(.int p0_2), (.int (1 : Int32)), (.int p0_0), (.int (1 : Int32)), (.ref bn0_3)])) _
    refine stk0_25 _ ?_
    show Steps p.tables e below (Tk0_25.setTop (mkF m 102 #[.val (.int p0_0), .val (.int p0_1), .val (.int p0_2), .val (.int p0_3), .val (.int p0_4), .val (.int p0_5), .val (.ref bn0_1), .val (.ref bn0_3), .val (.ref bn0_5), .unset, .unset, .unset] [(.double (own_r1_0 p0_0 (1 : Int32) p0_2)), (.int (1 : Int32)), (.ref bn0_3)])) _
    refine sto0_26 _ ?_
    show Steps p.tables e below (To0_26.setTop (mkF m 103 #[.val (.int p0_0), .val (.int p0_1), .val (.int p0_2), .val (.int p0_3), .val (.int p0_4), .val (.int p0_5), .val (.ref bn0_1), .val (.ref bn0_3), .val (.ref bn0_5), .unset, .unset, .unset] [])) _
    refine XS.aload Xo0_26.here hx rfl (hb hby at_103) rfl rfl ?_
    show Steps p.tables e below (To0_26.setTop (mkF m 105 #[.val (.int p0_0), .val (.int p0_1), .val (.int p0_2), .val (.int p0_3), .val (.int p0_4), .val (.int p0_5), .val (.ref bn0_1), .val (.ref bn0_3), .val (.ref bn0_5), .unset, .unset, .unset] [(.ref bn0_3)])) _
    refine XS.iconst Xo0_26.here hx rfl (hb hby at_105) ?_
    show Steps p.tables e below (To0_26.setTop (mkF m 106 #[.val (.int p0_0), .val (.int p0_1), .val (.int p0_2), .val (.int p0_3), .val (.int p0_4), .val (.int p0_5), .val (.ref bn0_1), .val (.ref bn0_3), .val (.ref bn0_5), .unset, .unset, .unset] [(.int (2 : Int32)), (.ref bn0_3)])) _
    refine XS.iloadN Xo0_26.here hx rfl (hb hby at_106) rfl ?_
    show Steps p.tables e below (To0_26.setTop (mkF m 107 #[.val (.int p0_0), .val (.int p0_1), .val (.int p0_2), .val (.int p0_3), .val (.int p0_4), .val (.int p0_5), .val (.ref bn0_1), .val (.ref bn0_3), .val (.ref bn0_5), .unset, .unset, .unset] [(.int p0_0), (.int (2 : Int32)), (.ref bn0_3)])) _
    refine XS.iconst Xo0_26.here hx rfl (hb hby at_107) ?_
    show Steps p.tables e below (To0_26.setTop (mkF m 108 #[.val (.int p0_0), .val (.int p0_1), .val (.int p0_2), .val (.int p0_3), .val (.int p0_4), .val (.int p0_5), .val (.ref bn0_1), .val (.ref bn0_3), .val (.ref bn0_5), .unset, .unset, .unset] [(.int (2 : Int32)), (.int p0_0), (.int (2 : Int32)), (.ref bn0_3)])) _
    refine XS.iloadN Xo0_26.here hx rfl (hb hby at_108) rfl ?_
    show Steps p.tables e below (To0_26.setTop (mkF m 109 #[.val (.int p0_0), .val (.int p0_1), .val (.int p0_2), .val (.int p0_3), .val (.int p0_4), .val (.int p0_5), .val (.ref bn0_1), .val (.ref bn0_3), .val (.ref bn0_5), .unset, .unset, .unset] [(.int p0_3), (.int (2 : Int32)), (.int p0_0), (.int (2 : Int32)), (.ref bn0_3)])) _
    refine stk0_28 _ ?_
    show Steps p.tables e below (Tk0_28.setTop (mkF m 112 #[.val (.int p0_0), .val (.int p0_1), .val (.int p0_2), .val (.int p0_3), .val (.int p0_4), .val (.int p0_5), .val (.ref bn0_1), .val (.ref bn0_3), .val (.ref bn0_5), .unset, .unset, .unset] [(.double (own_r1_0 p0_0 (2 : Int32) p0_3)), (.int (2 : Int32)), (.ref bn0_3)])) _
    refine sto0_29 _ ?_
    show Steps p.tables e below (To0_29.setTop (mkF m 113 #[.val (.int p0_0), .val (.int p0_1), .val (.int p0_2), .val (.int p0_3), .val (.int p0_4), .val (.int p0_5), .val (.ref bn0_1), .val (.ref bn0_3), .val (.ref bn0_5), .unset, .unset, .unset] [])) _
    refine XS.aload Xo0_29.here hx rfl (hb hby at_113) rfl rfl ?_
    show Steps p.tables e below (To0_29.setTop (mkF m 115 #[.val (.int p0_0), .val (.int p0_1), .val (.int p0_2), .val (.int p0_3), .val (.int p0_4), .val (.int p0_5), .val (.ref bn0_1), .val (.ref bn0_3), .val (.ref bn0_5), .unset, .unset, .unset] [(.ref bn0_3)])) _
    refine XS.iconst Xo0_29.here hx rfl (hb hby at_115) ?_
    show Steps p.tables e below (To0_29.setTop (mkF m 116 #[.val (.int p0_0), .val (.int p0_1), .val (.int p0_2), .val (.int p0_3), .val (.int p0_4), .val (.int p0_5), .val (.ref bn0_1), .val (.ref bn0_3), .val (.ref bn0_5), .unset, .unset, .unset] [(.int (3 : Int32)), (.ref bn0_3)])) _
    refine XS.iloadN Xo0_29.here hx rfl (hb hby at_116) rfl ?_
    show Steps p.tables e below (To0_29.setTop (mkF m 117 #[.val (.int p0_0), .val (.int p0_1), .val (.int p0_2), .val (.int p0_3), .val (.int p0_4), .val (.int p0_5), .val (.ref bn0_1), .val (.ref bn0_3), .val (.ref bn0_5), .unset, .unset, .unset] [(.int p0_0), (.int (3 : Int32)), (.ref bn0_3)])) _
    refine XS.iconst Xo0_29.here hx rfl (hb hby at_117) ?_
    show Steps p.tables e below (To0_29.setTop (mkF m 118 #[.val (.int p0_0), .val (.int p0_1), .val (.int p0_2), .val (.int p0_3), .val (.int p0_4), .val (.int p0_5), .val (.ref bn0_1), .val (.ref bn0_3), .val (.ref bn0_5), .unset, .unset, .unset] [(.int (3 : Int32)), (.int p0_0), (.int (3 : Int32)), (.ref bn0_3)])) _
    refine XS.iload Xo0_29.here hx rfl (hb hby at_118) rfl ?_
    show Steps p.tables e below (To0_29.setTop (mkF m 120 #[.val (.int p0_0), .val (.int p0_1), .val (.int p0_2), .val (.int p0_3), .val (.int p0_4), .val (.int p0_5), .val (.ref bn0_1), .val (.ref bn0_3), .val (.ref bn0_5), .unset, .unset, .unset] [(.int p0_4), (.int (3 : Int32)), (.int p0_0), (.int (3 : Int32)), (.ref bn0_3)])) _
    refine stk0_31 _ ?_
    show Steps p.tables e below (Tk0_31.setTop (mkF m 123 #[.val (.int p0_0), .val (.int p0_1), .val (.int p0_2), .val (.int p0_3), .val (.int p0_4), .val (.int p0_5), .val (.ref bn0_1), .val (.ref bn0_3), .val (.ref bn0_5), .unset, .unset, .unset] [(.double (own_r1_0 p0_0 (3 : Int32) p0_4)), (.int (3 : Int32)), (.ref bn0_3)])) _
    refine sto0_32 _ ?_
    show Steps p.tables e below (To0_32.setTop (mkF m 124 #[.val (.int p0_0), .val (.int p0_1), .val (.int p0_2), .val (.int p0_3), .val (.int p0_4), .val (.int p0_5), .val (.ref bn0_1), .val (.ref bn0_3), .val (.ref bn0_5), .unset, .unset, .unset] [])) _
    refine XS.aload Xo0_32.here hx rfl (hb hby at_124) rfl rfl ?_
    show Steps p.tables e below (To0_32.setTop (mkF m 126 #[.val (.int p0_0), .val (.int p0_1), .val (.int p0_2), .val (.int p0_3), .val (.int p0_4), .val (.int p0_5), .val (.ref bn0_1), .val (.ref bn0_3), .val (.ref bn0_5), .unset, .unset, .unset] [(.ref bn0_5)])) _
    refine XS.iconst Xo0_32.here hx rfl (hb hby at_126) ?_
    show Steps p.tables e below (To0_32.setTop (mkF m 127 #[.val (.int p0_0), .val (.int p0_1), .val (.int p0_2), .val (.int p0_3), .val (.int p0_4), .val (.int p0_5), .val (.ref bn0_1), .val (.ref bn0_3), .val (.ref bn0_5), .unset, .unset, .unset] [(.int (0 : Int32)), (.ref bn0_5)])) _
    refine XS.iloadN Xo0_32.here hx rfl (hb hby at_127) rfl ?_
    show Steps p.tables e below (To0_32.setTop (mkF m 128 #[.val (.int p0_0), .val (.int p0_1), .val (.int p0_2), .val (.int p0_3), .val (.int p0_4), .val (.int p0_5), .val (.ref bn0_1), .val (.ref bn0_3), .val (.ref bn0_5), .unset, .unset, .unset] [(.int p0_0), (.int (0 : Int32)), (.ref bn0_5)])) _
    refine XS.iconst Xo0_32.here hx rfl (hb hby at_128) ?_
    show Steps p.tables e below (To0_32.setTop (mkF m 129 #[.val (.int p0_0), .val (.int p0_1), .val (.int p0_2), .val (.int p0_3), .val (.int p0_4), .val (.int p0_5), .val (.ref bn0_1), .val (.ref bn0_3), .val (.ref bn0_5), .unset, .unset, .unset] [(.int (0 : Int32)), (.int p0_0), (.int (0 : Int32)), (.ref bn0_5)])) _
    refine stk0_34 _ ?_
    show Steps p.tables e below (Tk0_34.setTop (mkF m 132 #[.val (.int p0_0), .val (.int p0_1), .val (.int p0_2), .val (.int p0_3), .val (.int p0_4), .val (.int p0_5), .val (.ref bn0_1), .val (.ref bn0_3), .val (.ref bn0_5), .unset, .unset, .unset] [(.int (own_j3_0 p0_0 (0 : Int32))), (.int (0 : Int32)), (.ref bn0_5)])) _
    refine sto0_38 _ ?_
    show Steps p.tables e below (To0_38.setTop (mkF m 133 #[.val (.int p0_0), .val (.int p0_1), .val (.int p0_2), .val (.int p0_3), .val (.int p0_4), .val (.int p0_5), .val (.ref bn0_1), .val (.ref bn0_3), .val (.ref bn0_5), .unset, .unset, .unset] [])) _
    refine XS.aload Xo0_38.here hx rfl (hb hby at_133) rfl rfl ?_
    show Steps p.tables e below (To0_38.setTop (mkF m 135 #[.val (.int p0_0), .val (.int p0_1), .val (.int p0_2), .val (.int p0_3), .val (.int p0_4), .val (.int p0_5), .val (.ref bn0_1), .val (.ref bn0_3), .val (.ref bn0_5), .unset, .unset, .unset] [(.ref bn0_5)])) _
    refine XS.iconst Xo0_38.here hx rfl (hb hby at_135) ?_
    show Steps p.tables e below (To0_38.setTop (mkF m 136 #[.val (.int p0_0), .val (.int p0_1), .val (.int p0_2), .val (.int p0_3), .val (.int p0_4), .val (.int p0_5), .val (.ref bn0_1), .val (.ref bn0_3), .val (.ref bn0_5), .unset, .unset, .unset] [(.int (1 : Int32)), (.ref bn0_5)])) _
    refine XS.iloadN Xo0_38.here hx rfl (hb hby at_136) rfl ?_
    show Steps p.tables e below (To0_38.setTop (mkF m 137 #[.val (.int p0_0), .val (.int p0_1), .val (.int p0_2), .val (.int p0_3), .val (.int p0_4), .val (.int p0_5), .val (.ref bn0_1), .val (.ref bn0_3), .val (.ref bn0_5), .unset, .unset, .unset] [(.int p0_0), (.int (1 : Int32)), (.ref bn0_5)])) _
    refine XS.iconst Xo0_38.here hx rfl (hb hby at_137) ?_
    show Steps p.tables e below (To0_38.setTop (mkF m 138 #[.val (.int p0_0), .val (.int p0_1), .val (.int p0_2), .val (.int p0_3), .val (.int p0_4), .val (.int p0_5), .val (.ref bn0_1), .val (.ref bn0_3), .val (.ref bn0_5), .unset, .unset, .unset] [(.int (1 : Int32)), (.int p0_0), (.int (1 : Int32)), (.ref bn0_5)])) _
    refine stk0_40 _ ?_
    show Steps p.tables e below (Tk0_40.setTop (mkF m 141 #[.val (.int p0_0), .val (.int p0_1), .val (.int p0_2), .val (.int p0_3), .val (.int p0_4), .val (.int p0_5), .val (.ref bn0_1), .val (.ref bn0_3), .val (.ref bn0_5), .unset, .unset, .unset] [(.int (own_j3_0 p0_0 (1 : Int32))), (.int (1 : Int32)), (.ref bn0_5)])) _
    refine sto0_41 _ ?_
    show Steps p.tables e below (To0_41.setTop (mkF m 142 #[.val (.int p0_0), .val (.int p0_1), .val (.int p0_2), .val (.int p0_3), .val (.int p0_4), .val (.int p0_5), .val (.ref bn0_1), .val (.ref bn0_3), .val (.ref bn0_5), .unset, .unset, .unset] [])) _
    refine XS.aload Xo0_41.here hx rfl (hb hby at_142) rfl rfl ?_
    show Steps p.tables e below (To0_41.setTop (mkF m 144 #[.val (.int p0_0), .val (.int p0_1), .val (.int p0_2), .val (.int p0_3), .val (.int p0_4), .val (.int p0_5), .val (.ref bn0_1), .val (.ref bn0_3), .val (.ref bn0_5), .unset, .unset, .unset] [(.ref bn0_5)])) _
    refine XS.iconst Xo0_41.here hx rfl (hb hby at_144) ?_
    show Steps p.tables e below (To0_41.setTop (mkF m 145 #[.val (.int p0_0), .val (.int p0_1), .val (.int p0_2), .val (.int p0_3), .val (.int p0_4), .val (.int p0_5), .val (.ref bn0_1), .val (.ref bn0_3), .val (.ref bn0_5), .unset, .unset, .unset] [(.int (2 : Int32)), (.ref bn0_5)])) _
    refine XS.iloadN Xo0_41.here hx rfl (hb hby at_145) rfl ?_
    show Steps p.tables e below (To0_41.setTop (mkF m 146 #[.val (.int p0_0), .val (.int p0_1), .val (.int p0_2), .val (.int p0_3), .val (.int p0_4), .val (.int p0_5), .val (.ref bn0_1), .val (.ref bn0_3), .val (.ref bn0_5), .unset, .unset, .unset] [(.int p0_0), (.int (2 : Int32)), (.ref bn0_5)])) _
    refine XS.iconst Xo0_41.here hx rfl (hb hby at_146) ?_
    show Steps p.tables e below (To0_41.setTop (mkF m 147 #[.val (.int p0_0), .val (.int p0_1), .val (.int p0_2), .val (.int p0_3), .val (.int p0_4), .val (.int p0_5), .val (.ref bn0_1), .val (.ref bn0_3), .val (.ref bn0_5), .unset, .unset, .unset] [(.int (2 : Int32)), (.int p0_0), (.int (2 : Int32)), (.ref bn0_5)])) _
    refine stk0_43 _ ?_
    show Steps p.tables e below (Tk0_43.setTop (mkF m 150 #[.val (.int p0_0), .val (.int p0_1), .val (.int p0_2), .val (.int p0_3), .val (.int p0_4), .val (.int p0_5), .val (.ref bn0_1), .val (.ref bn0_3), .val (.ref bn0_5), .unset, .unset, .unset] [(.int (own_j3_0 p0_0 (2 : Int32))), (.int (2 : Int32)), (.ref bn0_5)])) _
    refine sto0_44 _ ?_
    show Steps p.tables e below (To0_44.setTop (mkF m 151 #[.val (.int p0_0), .val (.int p0_1), .val (.int p0_2), .val (.int p0_3), .val (.int p0_4), .val (.int p0_5), .val (.ref bn0_1), .val (.ref bn0_3), .val (.ref bn0_5), .unset, .unset, .unset] [])) _
    refine XS.aload Xo0_44.here hx rfl (hb hby at_151) rfl rfl ?_
    show Steps p.tables e below (To0_44.setTop (mkF m 153 #[.val (.int p0_0), .val (.int p0_1), .val (.int p0_2), .val (.int p0_3), .val (.int p0_4), .val (.int p0_5), .val (.ref bn0_1), .val (.ref bn0_3), .val (.ref bn0_5), .unset, .unset, .unset] [(.ref bn0_5)])) _
    refine XS.iconst Xo0_44.here hx rfl (hb hby at_153) ?_
    show Steps p.tables e below (To0_44.setTop (mkF m 154 #[.val (.int p0_0), .val (.int p0_1), .val (.int p0_2), .val (.int p0_3), .val (.int p0_4), .val (.int p0_5), .val (.ref bn0_1), .val (.ref bn0_3), .val (.ref bn0_5), .unset, .unset, .unset] [(.int (3 : Int32)), (.ref bn0_5)])) _
    refine XS.iloadN Xo0_44.here hx rfl (hb hby at_154) rfl ?_
    show Steps p.tables e below (To0_44.setTop (mkF m 155 #[.val (.int p0_0), .val (.int p0_1), .val (.int p0_2), .val (.int p0_3), .val (.int p0_4), .val (.int p0_5), .val (.ref bn0_1), .val (.ref bn0_3), .val (.ref bn0_5), .unset, .unset, .unset] [(.int p0_0), (.int (3 : Int32)), (.ref bn0_5)])) _
    refine XS.iconst Xo0_44.here hx rfl (hb hby at_155) ?_
    show Steps p.tables e below (To0_44.setTop (mkF m 156 #[.val (.int p0_0), .val (.int p0_1), .val (.int p0_2), .val (.int p0_3), .val (.int p0_4), .val (.int p0_5), .val (.ref bn0_1), .val (.ref bn0_3), .val (.ref bn0_5), .unset, .unset, .unset] [(.int (3 : Int32)), (.int p0_0), (.int (3 : Int32)), (.ref bn0_5)])) _
    refine stk0_46 _ ?_
    show Steps p.tables e below (Tk0_46.setTop (mkF m 159 #[.val (.int p0_0), .val (.int p0_1), .val (.int p0_2), .val (.int p0_3), .val (.int p0_4), .val (.int p0_5), .val (.ref bn0_1), .val (.ref bn0_3), .val (.ref bn0_5), .unset, .unset, .unset] [(.int (own_j3_0 p0_0 (3 : Int32))), (.int (3 : Int32)), (.ref bn0_5)])) _
    refine sto0_47 _ ?_
    show Steps p.tables e below (To0_47.setTop (mkF m 160 #[.val (.int p0_0), .val (.int p0_1), .val (.int p0_2), .val (.int p0_3), .val (.int p0_4), .val (.int p0_5), .val (.ref bn0_1), .val (.ref bn0_3), .val (.ref bn0_5), .unset, .unset, .unset] [])) _
    refine stn0_49 _ ?_
    show Steps p.tables e below (Tn0_49.setTop (mkF m 163 #[.val (.int p0_0), .val (.int p0_1), .val (.int p0_2), .val (.int p0_3), .val (.int p0_4), .val (.int p0_5), .val (.ref bn0_1), .val (.ref bn0_3), .val (.ref bn0_5), .unset, .unset, .unset] [(.ref bn0_49)])) _
    refine XS.dup Xn0_49.here hx rfl (hb hby at_163) rfl rfl ?_
    show Steps p.tables e below (Tn0_49.setTop (mkF m 164 #[.val (.int p0_0), .val (.int p0_1), .val (.int p0_2), .val (.int p0_3), .val (.int p0_4), .val (.int p0_5), .val (.ref bn0_1), .val (.ref bn0_3), .val (.ref bn0_5), .unset, .unset, .unset] [(.ref bn0_49), (.ref bn0_49)])) _
    refine XS.aload Xn0_49.here hx rfl (hb hby at_164) rfl rfl ?_
    show Steps p.tables e below (Tn0_49.setTop (mkF m 166 #[.val (.int p0_0), .val (.int p0_1), .val (.int p0_2), .val (.int p0_3), .val (.int p0_4), .val (.int p0_5), .val (.ref bn0_1), .val (.ref bn0_3), .val (.ref bn0_5), .unset, .unset, .unset] [(.ref bn0_5), (.ref bn0_49), (.ref bn0_49)])) _
    refine XS.aload Xn0_49.here hx rfl (hb hby at_166) rfl rfl ?_
    show Steps p.tables e below (Tn0_49.setTop (mkF m 168 #[.val (.int p0_0), .val (.int p0_1), .val (.int p0_2), .val (.int p0_3), .val (.int p0_4), .val (.int p0_5), .val (.ref bn0_1), .val (.ref bn0_3), .val (.ref bn0_5), .unset, .unset, .unset] [(.ref bn0_3), (.ref bn0_5), (.ref bn0_49), (.ref bn0_49)])) _
    refine XS.aload Xn0_49.here hx rfl (hb hby at_168) rfl rfl ?_
    show Steps p.tables e below (Tn0_49.setTop (mkF m 170 #[.val (.int p0_0), .val (.int p0_1), .val (.int p0_2), .val (.int p0_3), .val (.int p0_4), .val (.int p0_5), .val (.ref bn0_1), .val (.ref bn0_3), .val (.ref bn0_5), .unset, .unset, .unset] [(.ref bn0_1), (.ref bn0_3), (.ref bn0_5), (.ref bn0_49), (.ref bn0_49)])) _
    refine XS.dconst0 Xn0_49.here hx rfl (hb hby at_170) (v := (0 : UInt64)) (by decide +kernel) ?_
    show Steps p.tables e below (Tn0_49.setTop (mkF m 171 #[.val (.int p0_0), .val (.int p0_1), .val (.int p0_2), .val (.int p0_3), .val (.int p0_4), .val (.int p0_5), .val (.ref bn0_1), .val (.ref bn0_3), .val (.ref bn0_5), .unset, .unset, .unset] [(.double (0 : UInt64)), (.ref bn0_1), (.ref bn0_3), (.ref bn0_5), (.ref bn0_49), (.ref bn0_49)])) _
    refine stk0_51.trans ?_
    show Steps p.tables e below (Tk0_51.setTop (mkF m 174 #[.val (.int p0_0), .val (.int p0_1), .val (.int p0_2), .val (.int p0_3), .val (.int p0_4), .val (.int p0_5), .val (.ref bn0_1), .val (.ref bn0_3), .val (.ref bn0_5), .unset, .unset, .unset] [(.ref bn0_49)])) _
    refine XS.astore Xk0_51.here hx rfl (hb hby at_174) rfl rfl (l' := #[.val (.int p0_0), .val (.int p0_1), .val (.int p0_2), .val (.int p0_3), .val (.int p0_4), .val (.int p0_5), .val (.ref bn0_1), .val (.ref bn0_3), .val (.ref bn0_5), .val (.ref bn0_49), .unset, .unset]) rfl ?_
    show Steps p.tables e below (Tk0_51.setTop (mkF m 176 #[.val (.int p0_0), .val (.int p0_1), .val (.int p0_2), .val (.int p0_3), .val (.int p0_4), .val (.int p0_5), .val (.ref bn0_1), .val (.ref bn0_3), .val (.ref bn0_5), .val (.ref bn0_49), .unset, .unset] [])) _
    refine XS.aload Xk0_51.here hx rfl (hb hby at_176) rfl rfl ?_
    show Steps p.tables e below (Tk0_51.setTop (mkF m 178 #[.val (.int p0_0), .val (.int p0_1), .val (.int p0_2), .val (.int p0_3), .val (.int p0_4), .val (.int p0_5), .val (.ref bn0_1), .val (.ref bn0_3), .val (.ref bn0_5), .val (.ref bn0_49), .unset, .unset] [(.ref bn0_49)])) _
    refine XS.iload Xk0_51.here hx rfl (hb hby at_178) rfl ?_
    show Steps p.tables e below (Tk0_51.setTop (mkF m 180 #[.val (.int p0_0), .val (.int p0_1), .val (.int p0_2), .val (.int p0_3), .val (.int p0_4), .val (.int p0_5), .val (.ref bn0_1), .val (.ref bn0_3), .val (.ref bn0_5), .val (.ref bn0_49), .unset, .unset] [(.int p0_5), (.ref bn0_49)])) _
    refine XS.i2dS Xk0_51.here hx rfl (hb hby at_180) rfl rfl ?_
    show Steps p.tables e below (Tk0_51.setTop (mkF m 181 #[.val (.int p0_0), .val (.int p0_1), .val (.int p0_2), .val (.int p0_3), .val (.int p0_4), .val (.int p0_5), .val (.ref bn0_1), .val (.ref bn0_3), .val (.ref bn0_5), .val (.ref bn0_49), .unset, .unset] [(.double (FP.i2d p0_5)), (.ref bn0_49)])) _
    refine stk0_53.trans ?_
    show Steps p.tables e below (Tk0_53.setTop (mkF m 184 #[.val (.int p0_0), .val (.int p0_1), .val (.int p0_2), .val (.int p0_3), .val (.int p0_4), .val (.int p0_5), .val (.ref bn0_1), .val (.ref bn0_3), .val (.ref bn0_5), .val (.ref bn0_49), .unset, .unset] [(.int (own_r7_8 (FP.i2d p0_5) (nar .boolean (own_j0_0 p0_0)) (nar .boolean (own_j0_1 p0_0)) (nar .boolean (own_j0_2 p0_0)) (nar .boolean (own_j0_3 p0_0)) (own_v0_4 p0_0 p0_1) (own_v0_5 p0_0 p0_2) (own_v0_6 p0_0 p0_3) (own_v0_7 p0_0 p0_4)))])) _
    refine XS.istore Xk0_53.here hx rfl (hb hby at_184) rfl (l' := #[.val (.int p0_0), .val (.int p0_1), .val (.int p0_2), .val (.int p0_3), .val (.int p0_4), .val (.int p0_5), .val (.ref bn0_1), .val (.ref bn0_3), .val (.ref bn0_5), .val (.ref bn0_49), .val (.int (own_v0_8 p0_0 p0_1 p0_2 p0_3 p0_4 p0_5)), .unset]) rfl ?_
    show Steps p.tables e below (Tk0_53.setTop (mkF m 186 #[.val (.int p0_0), .val (.int p0_1), .val (.int p0_2), .val (.int p0_3), .val (.int p0_4), .val (.int p0_5), .val (.ref bn0_1), .val (.ref bn0_3), .val (.ref bn0_5), .val (.ref bn0_49), .val (.int (own_v0_8 p0_0 p0_1 p0_2 p0_3 p0_4 p0_5)), .unset] [])) _
    refine XS.iloadN Xk0_53.here hx rfl (hb hby at_186) rfl ?_
    show Steps p.tables e below (Tk0_53.setTop (mkF m 187 #[.val (.int p0_0), .val (.int p0_1), .val (.int p0_2), .val (.int p0_3), .val (.int p0_4), .val (.int p0_5), .val (.ref bn0_1), .val (.ref bn0_3), .val (.ref bn0_5), .val (.ref bn0_49), .val (.int (own_v0_8 p0_0 p0_1 p0_2 p0_3 p0_4 p0_5)), .unset] [(.int p0_0)])) _
    refine XS.iconst Xk0_53.here hx rfl (hb hby at_187) ?_
    show Steps p.tables e below (Tk0_53.setTop (mkF m 188 #[.val (.int p0_0), .val (.int p0_1), .val (.int p0_2), .val (.int p0_3), .val (.int p0_4), .val (.int p0_5), .val (.ref bn0_1), .val (.ref bn0_3), .val (.ref bn0_5), .val (.ref bn0_49), .val (.int (own_v0_8 p0_0 p0_1 p0_2 p0_3 p0_4 p0_5)), .unset] [(.int (0 : Int32)), (.int p0_0)])) _
    refine XS.iloadN Xk0_53.here hx rfl (hb hby at_188) rfl ?_
    show Steps p.tables e below (Tk0_53.setTop (mkF m 189 #[.val (.int p0_0), .val (.int p0_1), .val (.int p0_2), .val (.int p0_3), .val (.int p0_4), .val (.int p0_5), .val (.ref bn0_1), .val (.ref bn0_3), .val (.ref bn0_5), .val (.ref bn0_49), .val (.int (own_v0_8 p0_0 p0_1 p0_2 p0_3 p0_4 p0_5)), .unset] [(.int p0_1), (.int (0 : Int32)), (.int p0_0)])) _
    refine XS.iload Xk0_53.here hx rfl (hb hby at_189) rfl ?_
    show Steps p.tables e below (Tk0_53.setTop (mkF m 191 #[.val (.int p0_0), .val (.int p0_1), .val (.int p0_2), .val (.int p0_3), .val (.int p0_4), .val (.int p0_5), .val (.ref bn0_1), .val (.ref bn0_3), .val (.ref bn0_5), .val (.ref bn0_49), .val (.int (own_v0_8 p0_0 p0_1 p0_2 p0_3 p0_4 p0_5)), .unset] [(.int p0_5), (.int p0_1), (.int (0 : Int32)), (.int p0_0)])) _
    refine stk0_58 _ ?_
    show Steps p.tables e below (Tk0_58.setTop (mkF m 194 #[.val (.int p0_0), .val (.int p0_1), .val (.int p0_2), .val (.int p0_3), .val (.int p0_4), .val (.int p0_5), .val (.ref bn0_1), .val (.ref bn0_3), .val (.ref bn0_5), .val (.ref bn0_49), .val (.int (own_v0_8 p0_0 p0_1 p0_2 p0_3 p0_4 p0_5)), .unset] [(.int (own_r8_0 p0_0 (0 : Int32) p0_1 p0_5))])) _
    refine XS.iloadN Xk0_58.here hx rfl (hb hby at_194) rfl ?_
    show Steps p.tables e below (Tk0_58.setTop (mkF m 195 #[.val (.int p0_0), .val (.int p0_1), .val (.int p0_2), .val (.int p0_3), .val (.int p0_4), .val (.int p0_5), .val (.ref bn0_1), .val (.ref bn0_3), .val (.ref bn0_5), .val (.ref bn0_49), .val (.int (own_v0_8 p0_0 p0_1 p0_2 p0_3 p0_4 p0_5)), .unset] [(.int p0_0), (.int (own_r8_0 p0_0 (0 : Int32) p0_1 p0_5))])) _
    refine XS.iconst Xk0_58.here hx rfl (hb hby at_195) ?_
    show Steps p.tables e below (Tk0_58.setTop (mkF m 196 #[.val (.int p0_0), .val (.int p0_1), .val (.int p0_2), .val (.int p0_3), .val (.int p0_4), .val (.int p0_5), .val (.ref bn0_1), .val (.ref bn0_3), .val (.ref bn0_5), .val (.ref bn0_49), .val (.int (own_v0_8 p0_0 p0_1 p0_2 p0_3 p0_4 p0_5)), .unset] [(.int (1 : Int32)), (.int p0_0), (.int (own_r8_0 p0_0 (0 : Int32) p0_1 p0_5))])) _
    refine XS.iloadN Xk0_58.here hx rfl (hb hby at_196) rfl ?_
    show Steps p.tables e below (Tk0_58.setTop (mkF m 197 #[.val (.int p0_0), .val (.int p0_1), .val (.int p0_2), .val (.int p0_3), .val (.int p0_4), .val (.int p0_5), .val (.ref bn0_1), .val (.ref bn0_3), .val (.ref bn0_5), .val (.ref bn0_49), .val (.int (own_v0_8 p0_0 p0_1 p0_2 p0_3 p0_4 p0_5)), .unset] [(.int p0_2), (.int (1 : Int32)), (.int p0_0), (.int (own_r8_0 p0_0 (0 : Int32) p0_1 p0_5))])) _
    refine XS.iload Xk0_58.here hx rfl (hb hby at_197) rfl ?_
    show Steps p.tables e below (Tk0_58.setTop (mkF m 199 #[.val (.int p0_0), .val (.int p0_1), .val (.int p0_2), .val (.int p0_3), .val (.int p0_4), .val (.int p0_5), .val (.ref bn0_1), .val (.ref bn0_3), .val (.ref bn0_5), .val (.ref bn0_49), .val (.int (own_v0_8 p0_0 p0_1 p0_2 p0_3 p0_4 p0_5)), .unset] [(.int p0_5), (.int p0_2), (.int (1 : Int32)), (.int p0_0), (.int (own_r8_0 p0_0 (0 : Int32) p0_1 p0_5))])) _
    refine stk0_59 _ ?_
    show Steps p.tables e below (Tk0_59.setTop (mkF m 202 #[.val (.int p0_0), .val (.int p0_1), .val (.int p0_2), .val (.int p0_3), .val (.int p0_4), .val (.int p0_5), .val (.ref bn0_1), .val (.ref bn0_3), .val (.ref bn0_5), .val (.ref bn0_49), .val (.int (own_v0_8 p0_0 p0_1 p0_2 p0_3 p0_4 p0_5)), .unset] [(.int (own_r8_0 p0_0 (1 : Int32) p0_2 p0_5)), (.int (own_r8_0 p0_0 (0 : Int32) p0_1 p0_5))])) _
    refine XS.iadd Xk0_59.here hx rfl (hb hby at_202) rfl ?_
    show Steps p.tables e below (Tk0_59.setTop (mkF m 203 #[.val (.int p0_0), .val (.int p0_1), .val (.int p0_2), .val (.int p0_3), .val (.int p0_4), .val (.int p0_5), .val (.ref bn0_1), .val (.ref bn0_3), .val (.ref bn0_5), .val (.ref bn0_49), .val (.int (own_v0_8 p0_0 p0_1 p0_2 p0_3 p0_4 p0_5)), .unset] [(.int ((own_r8_0 p0_0 (0 : Int32) p0_1 p0_5) + (own_r8_0 p0_0 (1 : Int32) p0_2 p0_5)))])) _
    refine XS.iloadN Xk0_59.here hx rfl (hb hby at_203) rfl ?_
    show Steps p.tables e below (Tk0_59.setTop (mkF m 204 #[.val (.int p0_0), .val (.int p0_1), .val (.int p0_2), .val (.int p0_3), .val (.int p0_4), .val (.int p0_5), .val (.ref bn0_1), .val (.ref bn0_3), .val (.ref bn0_5), .val (.ref bn0_49), .val (.int (own_v0_8 p0_0 p0_1 p0_2 p0_3 p0_4 p0_5)), .unset] [(.int p0_0), (.int ((own_r8_0 p0_0 (0 : Int32) p0_1 p0_5) + (own_r8_0 p0_0 (1 : Int32) p0_2 p0_5)))])) _
    refine XS.iconst Xk0_59.here hx rfl (hb hby at_204) ?_
    show Steps p.tables e below (Tk0_59.setTop (mkF m 205 #[.val (.int p0_0), .val (.int p0_1), .val (.int p0_2), .val (.int p0_3), .val (.int p0_4), .val (.int p0_5), .val (.ref bn0_1), .val (.ref bn0_3), .val (.ref bn0_5), .val (.ref bn0_49), .val (.int (own_v0_8 p0_0 p0_1 p0_2 p0_3 p0_4 p0_5)), .unset] [(.int (2 : Int32)), (.int p0_0), (.int ((own_r8_0 p0_0 (0 : Int32) p0_1 p0_5) + (own_r8_0 p0_0 (1 : Int32) p0_2 p0_5)))])) _
    refine XS.iloadN Xk0_59.here hx rfl (hb hby at_205) rfl ?_
    show Steps p.tables e below (Tk0_59.setTop (mkF m 206 #[.val (.int p0_0), .val (.int p0_1), .val (.int p0_2), .val (.int p0_3), .val (.int p0_4), .val (.int p0_5), .val (.ref bn0_1), .val (.ref bn0_3), .val (.ref bn0_5), .val (.ref bn0_49), .val (.int (own_v0_8 p0_0 p0_1 p0_2 p0_3 p0_4 p0_5)), .unset] [(.int p0_3), (.int (2 : Int32)), (.int p0_0), (.int ((own_r8_0 p0_0 (0 : Int32) p0_1 p0_5) + (own_r8_0 p0_0 (1 : Int32) p0_2 p0_5)))])) _
    refine XS.iload Xk0_59.here hx rfl (hb hby at_206) rfl ?_
    show Steps p.tables e below (Tk0_59.setTop (mkF m 208 #[.val (.int p0_0), .val (.int p0_1), .val (.int p0_2), .val (.int p0_3), .val (.int p0_4), .val (.int p0_5), .val (.ref bn0_1), .val (.ref bn0_3), .val (.ref bn0_5), .val (.ref bn0_49), .val (.int (own_v0_8 p0_0 p0_1 p0_2 p0_3 p0_4 p0_5)), .unset] [(.int p0_5), (.int p0_3), (.int (2 : Int32)), (.int p0_0), (.int ((own_r8_0 p0_0 (0 : Int32) p0_1 p0_5) + (own_r8_0 p0_0 (1 : Int32) p0_2 p0_5)))])) _
    refine stk0_60 _ ?_
    show Steps p.tables e below (Tk0_60.setTop (mkF m 211 #[.val (.int p0_0), .val (.int p0_1), .val (.int p0_2), .val (.int p0_3), .val (.int p0_4), .val (.int p0_5), .val (.ref bn0_1), .val (.ref bn0_3), .val (.ref bn0_5), .val (.ref bn0_49), .val (.int (own_v0_8 p0_0 p0_1 p0_2 p0_3 p0_4 p0_5)), .unset] [(.int (own_r8_0 p0_0 (2 : Int32) p0_3 p0_5)), (.int ((own_r8_0 p0_0 (0 : Int32) p0_1 p0_5) + (own_r8_0 p0_0 (1 : Int32) p0_2 p0_5)))])) _
    refine XS.iadd Xk0_60.here hx rfl (hb hby at_211) rfl ?_
    show Steps p.tables e below (Tk0_60.setTop (mkF m 212 #[.val (.int p0_0), .val (.int p0_1), .val (.int p0_2), .val (.int p0_3), .val (.int p0_4), .val (.int p0_5), .val (.ref bn0_1), .val (.ref bn0_3), .val (.ref bn0_5), .val (.ref bn0_49), .val (.int (own_v0_8 p0_0 p0_1 p0_2 p0_3 p0_4 p0_5)), .unset] [(.int (((own_r8_0 p0_0 (0 : Int32) p0_1 p0_5) + (own_r8_0 p0_0 (1 : Int32) p0_2 p0_5)) + (own_r8_0 p0_0 (2 : Int32) p0_3 p0_5)))])) _
    refine XS.iloadN Xk0_60.here hx rfl (hb hby at_212) rfl ?_
    show Steps p.tables e below (Tk0_60.setTop (mkF m 213 #[.val (.int p0_0), .val (.int p0_1), .val (.int p0_2), .val (.int p0_3), .val (.int p0_4), .val (.int p0_5), .val (.ref bn0_1), .val (.ref bn0_3), .val (.ref bn0_5), .val (.ref bn0_49), .val (.int (own_v0_8 p0_0 p0_1 p0_2 p0_3 p0_4 p0_5)), .unset] [(.int p0_0), (.int (((own_r8_0 p0_0 (0 : Int32) p0_1 p0_5) + (own_r8_0 p0_0 (1 : Int32) p0_2 p0_5)) + (own_r8_0 p0_0 (2 : Int32) p0_3 p0_5)))])) _
    refine XS.iconst Xk0_60.here hx rfl (hb hby at_213) ?_
    show Steps p.tables e below (Tk0_60.setTop (mkF m 214 #[.val (.int p0_0), .val (.int p0_1), .val (.int p0_2), .val (.int p0_3), .val (.int p0_4), .val (.int p0_5), .val (.ref bn0_1), .val (.ref bn0_3), .val (.ref bn0_5), .val (.ref bn0_49), .val (.int (own_v0_8 p0_0 p0_1 p0_2 p0_3 p0_4 p0_5)), .unset] [(.int (3 : Int32)), (.int p0_0), (.int (((own_r8_0 p0_0 (0 : Int32) p0_1 p0_5) + (own_r8_0 p0_0 (1 : Int32) p0_2 p0_5)) + (own_r8_0 p0_0 (2 : Int32) p0_3 p0_5)))])) _
    refine XS.iload Xk0_60.here hx rfl (hb hby at_214) rfl ?_
    show Steps p.tables e below (Tk0_60.setTop (mkF m 216 #[.val (.int p0_0), .val (.int p0_1), .val (.int p0_2), .val (.int p0_3), .val (.int p0_4), .val (.int p0_5), .val (.ref bn0_1), .val (.ref bn0_3), .val (.ref bn0_5), .val (.ref bn0_49), .val (.int (own_v0_8 p0_0 p0_1 p0_2 p0_3 p0_4 p0_5)), .unset] [(.int p0_4), (.int (3 : Int32)), (.int p0_0), (.int (((own_r8_0 p0_0 (0 : Int32) p0_1 p0_5) + (own_r8_0 p0_0 (1 : Int32) p0_2 p0_5)) + (own_r8_0 p0_0 (2 : Int32) p0_3 p0_5)))])) _
    refine XS.iload Xk0_60.here hx rfl (hb hby at_216) rfl ?_
    show Steps p.tables e below (Tk0_60.setTop (mkF m 218 #[.val (.int p0_0), .val (.int p0_1), .val (.int p0_2), .val (.int p0_3), .val (.int p0_4), .val (.int p0_5), .val (.ref bn0_1), .val (.ref bn0_3), .val (.ref bn0_5), .val (.ref bn0_49), .val (.int (own_v0_8 p0_0 p0_1 p0_2 p0_3 p0_4 p0_5)), .unset] [(.int p0_5), (.int p0_4), (.int (3 : Int32)), (.int p0_0), (.int (((own_r8_0 p0_0 (0 : Int32) p0_1 p0_5) + (own_r8_0 p0_0 (1 : Int32) p0_2 p0_5)) + (own_r8_0 p0_0 (2 : Int32) p0_3 p0_5)))])) _
    refine stk0_61 _ ?_
    show Steps p.tables e below (Tk0_61.setTop (mkF m 221 #[.val (.int p0_0), .val (.int p0_1), .val (.int p0_2), .val (.int p0_3), .val (.int p0_4), .val (.int p0_5), .val (.ref bn0_1), .val (.ref bn0_3), .val (.ref bn0_5), .val (.ref bn0_49), .val (.int (own_v0_8 p0_0 p0_1 p0_2 p0_3 p0_4 p0_5)), .unset] [(.int (own_r8_0 p0_0 (3 : Int32) p0_4 p0_5)), (.int (((own_r8_0 p0_0 (0 : Int32) p0_1 p0_5) + (own_r8_0 p0_0 (1 : Int32) p0_2 p0_5)) + (own_r8_0 p0_0 (2 : Int32) p0_3 p0_5)))])) _
    refine XS.iadd Xk0_61.here hx rfl (hb hby at_221) rfl ?_
    show Steps p.tables e below (Tk0_61.setTop (mkF m 222 #[.val (.int p0_0), .val (.int p0_1), .val (.int p0_2), .val (.int p0_3), .val (.int p0_4), .val (.int p0_5), .val (.ref bn0_1), .val (.ref bn0_3), .val (.ref bn0_5), .val (.ref bn0_49), .val (.int (own_v0_8 p0_0 p0_1 p0_2 p0_3 p0_4 p0_5)), .unset] [(.int ((((own_r8_0 p0_0 (0 : Int32) p0_1 p0_5) + (own_r8_0 p0_0 (1 : Int32) p0_2 p0_5)) + (own_r8_0 p0_0 (2 : Int32) p0_3 p0_5)) + (own_r8_0 p0_0 (3 : Int32) p0_4 p0_5)))])) _
    refine XS.istore Xk0_61.here hx rfl (hb hby at_222) rfl (l' := #[.val (.int p0_0), .val (.int p0_1), .val (.int p0_2), .val (.int p0_3), .val (.int p0_4), .val (.int p0_5), .val (.ref bn0_1), .val (.ref bn0_3), .val (.ref bn0_5), .val (.ref bn0_49), .val (.int (own_v0_8 p0_0 p0_1 p0_2 p0_3 p0_4 p0_5)), .val (.int (own_v0_9 p0_0 p0_1 p0_2 p0_3 p0_4 p0_5))]) rfl ?_
    show Steps p.tables e below (Tk0_61.setTop (mkF m 224 #[.val (.int p0_0), .val (.int p0_1), .val (.int p0_2), .val (.int p0_3), .val (.int p0_4), .val (.int p0_5), .val (.ref bn0_1), .val (.ref bn0_3), .val (.ref bn0_5), .val (.ref bn0_49), .val (.int (own_v0_8 p0_0 p0_1 p0_2 p0_3 p0_4 p0_5)), .val (.int (own_v0_9 p0_0 p0_1 p0_2 p0_3 p0_4 p0_5))] [])) _
    refine XS.iload Xk0_61.here hx rfl (hb hby at_224) rfl ?_
    show Steps p.tables e below (Tk0_61.setTop (mkF m 226 #[.val (.int p0_0), .val (.int p0_1), .val (.int p0_2), .val (.int p0_3), .val (.int p0_4), .val (.int p0_5), .val (.ref bn0_1), .val (.ref bn0_3), .val (.ref bn0_5), .val (.ref bn0_49), .val (.int (own_v0_8 p0_0 p0_1 p0_2 p0_3 p0_4 p0_5)), .val (.int (own_v0_9 p0_0 p0_1 p0_2 p0_3 p0_4 p0_5))] [(.int (own_v0_8 p0_0 p0_1 p0_2 p0_3 p0_4 p0_5))])) _
    refine XS.iload Xk0_61.here hx rfl (hb hby at_226) rfl ?_
    show Steps p.tables e below (Tk0_61.setTop (mkF m 228 #[.val (.int p0_0), .val (.int p0_1), .val (.int p0_2), .val (.int p0_3), .val (.int p0_4), .val (.int p0_5), .val (.ref bn0_1), .val (.ref bn0_3), .val (.ref bn0_5), .val (.ref bn0_49), .val (.int (own_v0_8 p0_0 p0_1 p0_2 p0_3 p0_4 p0_5)), .val (.int (own_v0_9 p0_0 p0_1 p0_2 p0_3 p0_4 p0_5))] [(.int (own_v0_9 p0_0 p0_1 p0_2 p0_3 p0_4 p0_5)), (.int (own_v0_8 p0_0 p0_1 p0_2 p0_3 p0_4 p0_5))])) _
    refine XS.icmpNo Xk0_61.here hx rfl (hb hby at_228) rfl (XT.ii_ne_f hc228) ?_
    show Steps p.tables e below (Tk0_61.setTop (mkF m 231 #[.val (.int p0_0), .val (.int p0_1), .val (.int p0_2), .val (.int p0_3), .val (.int p0_4), .val (.int p0_5), .val (.ref bn0_1), .val (.ref bn0_3), .val (.ref bn0_5), .val (.ref bn0_49), .val (.int (own_v0_8 p0_0 p0_1 p0_2 p0_3 p0_4 p0_5)), .val (.int (own_v0_9 p0_0 p0_1 p0_2 p0_3 p0_4 p0_5))] [])) _
    refine XS.iconst Xk0_61.here hx rfl (hb hby at_231) ?_
    show Steps p.tables e below (Tk0_61.setTop (mkF m 232 #[.val (.int p0_0), .val (.int p0_1), .val (.int p0_2), .val (.int p0_3), .val (.int p0_4), .val (.int p0_5), .val (.ref bn0_1), .val (.ref bn0_3), .val (.ref bn0_5), .val (.ref bn0_49), .val (.int (own_v0_8 p0_0 p0_1 p0_2 p0_3 p0_4 p0_5)), .val (.int (own_v0_9 p0_0 p0_1 p0_2 p0_3 p0_4 p0_5))] [(.int (1 : Int32))])) _
    refine XS.goto Xk0_61.here hx rfl (pc0 := 232) (pc' := 236) rfl (hb hby at_232) (by decide) (by decide) ?_
    show Steps p.tables e below (Tk0_61.setTop (mkF m 236 #[.val (.int p0_0), .val (.int p0_1), .val (.int p0_2), .val (.int p0_3), .val (.int p0_4), .val (.int p0_5), .val (.ref bn0_1), .val (.ref bn0_3), .val (.ref bn0_5), .val (.ref bn0_49), .val (.int (own_v0_8 p0_0 p0_1 p0_2 p0_3 p0_4 p0_5)), .val (.int (own_v0_9 p0_0 p0_1 p0_2 p0_3 p0_4 p0_5))] [(.int (1 : Int32))])) _
    exact retN Xk0_61 hx (t := .boolean) Bd.returns (by simp) (hb hby at_236) hr
  · show own_Q0 Z p0_0 p0_1 p0_2 p0_3 p0_4 p0_5 h0 n0 _ Tk0_61.heap _
    rw [ek0_61]
    exact ⟨rfl, Nk0_61⟩
def own_ct (r : Int32) (C : Prop) [Decidable C] : Int32 := if r = (0 : Int32) then (0 : Int32) else if C then (1 : Int32) else (0 : Int32)
theorem own_step (r p : Int32) (C : Prop) [Decidable C] : (if r = (0 : Int32) then p else (if C then p + (1 : Int32) else p)) = p + own_ct r C := by
  unfold own_ct
  by_cases h : r = 0
  · rw [if_pos h, if_pos h, Int32.add_zero]
  · rw [if_neg h, if_neg h]
    by_cases q : C
    · rw [if_pos q, if_pos q]
    · rw [if_neg q, if_neg q, Int32.add_zero]
theorem own_n0 : nar .boolean (0 : Int32) = 0 := by decide
theorem own_n1 : ¬ nar .boolean (1 : Int32) = 0 := by decide
theorem own_ci (f i d b : Int32) : own_ct (nar .boolean (if ((f >>> (i &&& 31)) &&& (1 : Int32)) = (0 : Int32) then (0 : Int32) else (1 : Int32))) ((0 : Int32) < (cmpValue (FP.dcmp (own_r1_0 f i d) (FP.i2d b)) .l)) = own_r8_0 f i d b := by
  unfold own_ct own_r8_0
  by_cases hb : ((f >>> (i &&& 31)) &&& (1 : Int32)) = (0 : Int32)
  · rw [if_pos hb, if_pos own_n0, if_pos hb]
  · rw [if_neg hb, if_neg own_n1, if_neg hb]
    unfold own_r1_0
    by_cases hu : own_r2_1 f i = 0
    · rw [if_pos hu, if_pos hu, own_cmpU (own_is_i2d d) (own_is_i2d b)]
      simp only [Int32.lt_iff_toInt_lt (x := b)]
      rcases Int.lt_trichotomy d.toInt b.toInt with h | h | h
      · rw [if_pos h, if_neg (by decide), if_neg (by omega)]
      · rw [if_neg (show ¬ d.toInt < b.toInt by omega), if_pos h, if_neg (by decide), if_neg (by omega)]
      · rw [if_neg (show ¬ d.toInt < b.toInt by omega), if_neg (show ¬ d.toInt = b.toInt by omega), if_pos (by decide), if_pos h]
    · rw [if_neg hu, if_neg hu, dcmp_pinf' (i2d_fin b), if_pos (by decide)]
theorem own_x_hc228 (p0_0 : Int32) (p0_1 : Int32) (p0_2 : Int32) (p0_3 : Int32) (p0_4 : Int32) (p0_5 : Int32) : (own_v0_8 p0_0 p0_1 p0_2 p0_3 p0_4 p0_5) = (own_v0_9 p0_0 p0_1 p0_2 p0_3 p0_4 p0_5) := by
  unfold own_v0_8 own_r7_8 own_j7_7 own_j7_6
  rw [own_step]
  unfold own_j7_5 own_j7_4
  rw [own_step]
  unfold own_j7_3 own_j7_2
  rw [own_step]
  unfold own_j7_1 own_j7_0
  unfold own_v0_9 own_v0_4 own_v0_5 own_v0_6 own_v0_7 own_j0_0 own_j0_1 own_j0_2 own_j0_3
  rw [own_ci, own_ci, own_ci]
  have h := own_ci p0_0 0 p0_1 p0_5
  unfold own_ct at h
  rw [h]

set_option maxRecDepth 65536 in
set_option maxHeartbeats 40000000 in
theorem comes_1 {Post : Tables → Env → Array Value → State → Outcome → State → Prop} (hpost : ∀ tb e args s v u, (limb_1_1.after args s (.returned v) u = true ∧ limb_1_2.after args s (.returned v) u = true ∧ True) → FrameEnd s (.returned v) u (Jvm.fieldLocs frame_1_writes args s ++ Jvm.arrayLocs frame_1_arrays args s ++ Jvm.staticLocs frame_1_statics s) 16 128 → Post tb e args s (.returned v) u) :
    ArmFor flags0 classFile x code maxLocals ret World_1 tables_1 room_1 Calls_1 rest_1 Pre_1 Post := by
  intro l hfl _ _ p e ha hc hk s m args below hf hA hF happ hP
  obtain ⟨hcalls, hrest, hpre⟩ := hP
  obtain ⟨-, -, -, hnamed, -, -, -, hat⟩ := (Spec.applies_iff hf).mp happ
  obtain ⟨hg, hn⟩ := and_e (Cond.before_iff.mp (show (Jvm.Cond.and given_1 narrow_1).before args s = true from hpre))
  obtain ⟨g1a, g1b⟩ := and_e hg
  obtain ⟨g2a, g2b⟩ := and_e g1b
  obtain ⟨g3a, g3b⟩ := and_e g2b
  obtain ⟨g4a, g4b⟩ := and_e g3b
  obtain ⟨g5a, g5b⟩ := and_e g4b
  obtain ⟨g6a, g6b⟩ := and_e g5b
  obtain ⟨w0, w1, w2, w3, w4, w5, rfl⟩ : ∃ w0 w1 w2 w3 w4 w5 : Value, args = #[w0, w1, w2, w3, w4, w5] := by
    have hs : args.size = 6 := by simpa [Cond.value, given_1] using g1a
    obtain ⟨L⟩ := args
    match L, hs with
    | [w0, w1, w2, w3, w4, w5], _ => exact ⟨w0, w1, w2, w3, w4, w5, rfl⟩
  have hw := fun d (hd : d ∈ tables_1) => atoms_spec (ws := Jvm.Cond.code x code maxLocals ret :: tables_1) hat d (List.mem_cons_of_mem _ hd)
  obtain ⟨i0, ei0⟩ := is_v g2a
  obtain rfl : w0 = (.int i0) := Option.some.inj ei0
  obtain ⟨i1, ei1⟩ := is_v g3a
  obtain rfl : w1 = (.int i1) := Option.some.inj ei1
  obtain ⟨i2, ei2⟩ := is_v g4a
  obtain rfl : w2 = (.int i2) := Option.some.inj ei2
  obtain ⟨i3, ei3⟩ := is_v g5a
  obtain rfl : w3 = (.int i3) := Option.some.inj ei3
  obtain ⟨i4, ei4⟩ := is_v g6a
  obtain rfl : w4 = (.int i4) := Option.some.inj ei4
  obtain ⟨i5, ei5⟩ := is_v g6b
  obtain rfl : w5 = (.int i5) := Option.some.inj ei5
  obtain ⟨n, o, h1, h2, h3, _, L, rfl, ⟨rfl, N⟩, hq⟩ := own_rm0 l s _ hw tables_1 i0 i1 i2 i3 i4 i5 s.heap s.heap.size (Nat.le_refl _) (by first | exact own_x_hc228 i0 i1 i2 i3 i4 i5 | exact own_x_hc228 i0 i1 i2 i3 i4 i5) p e ha hc hk s m _ below hf ((Spec.applies_iff_loose hf).mp happ).1 ⟨rfl, State.Warmed39.refl s, rfl⟩ trivial
  refine ⟨n, _, h1, h2, h3, hpost _ _ _ _ _ _ ⟨Cond.after_iff.mpr rfl, Cond.after_iff.mpr (eq_i res_at (Term.int_eval (1)) rfl), trivial⟩ ⟨hq.1, hq.2.1, (hq.2.2.sift fun y hy => Or.inr (N y hy)).mono (by decide) (by decide)⟩⟩
theorem main_1_1 : Claimed_1_1 := comes_1 fun _ _ _ _ _ _ h hF => ⟨h.1, hF⟩
theorem main_1_2 : Claimed_1_2 := comes_1 fun _ _ _ _ _ _ h hF => ⟨h.2.1, hF⟩
end Jvm.Pilot.@@N@@
namespace Jvm.Pilot.@@N@@
open Jvm Jvm.ClassFile Sem Op Lib Jvm.Free Jvm.Stand Jvm.Pilot.@@N@@.Jvm.D
/-! MADE BY PROGRAM (witnessworld.py) out of the Statement's table words and the real class files: 14 classes; the members and pool entries that the words name. The judged class is class 1, her method 1. -/
namespace start1
open Jvm.ClassFile
def u (s : String) : CpInfo := .utf8 (stringToUtf16 s)
/-- a pool by its gaps: so many unusable entries, then the entry; so many at the end -/
def gap : Nat → List CpInfo → List CpInfo
  | 0, r => r
  | n + 1, r => .unusable :: gap n r
def poolList (es : List (Nat × CpInfo)) (last : Nat) : List CpInfo := es.foldr (fun e r => gap e.1 (e.2 :: r)) (gap last [])
def pool (es : List (Nat × CpInfo)) (last : Nat) : Array CpInfo := ⟨poolList es last⟩
def fileOf (pool : Array CpInfo) (this : Nat) (attrs : Array Attribute := #[]) (ms : Array MethodInfo := #[]) (fl : Nat := 33) (sup : Nat := 0) (ifs : Array Nat := #[]) (fds : Array FieldInfo := #[]) : ClassFile where
  minorVersion := 0
  majorVersion := 65
  constantPool := pool
  accessFlags := fl
  thisClass := this
  superClass := sup
  interfaces := ifs
  fields := fds
  methods := ms
  attributes := attrs
def plain (name : String) (sup : Option ClassId) : Class where
  name := name
  kind := .ordinary
  loader := none
  accessFlags := 33
  super := sup
  interfaces := #[]
  cf := none
  fields := #[]
  methods := #[]
  instanceTypes := #[]
  staticTypes := #[]
  resolved := #[]
  callSites := []
  init := .initialized
  statics := none
  mirror := none

def pool0 : Array CpInfo := pool [(5, u "<init>"), (0, u "()V"), (1, .class_ 10), (1, u "java/lang/Object")] 113

def k0c0 : Code := { maxStack := 0, maxLocals := 1, code := object_method_1_code, exceptionTable := #[], attributes := #[] }
def k0m0 : Method := { name := "<init>", desc := "()V", sig := { parameters := [], returnType := none }, accessFlags := 1, code := some k0c0 }
/-- java/lang/Object -/
def k0 : Class := { plain "java/lang/Object" none with
  accessFlags := 33
  interfaces := #[]
  cf := some (fileOf pool0 8 #[] #[{ accessFlags := 1, nameIndex := 5, descriptorIndex := 6, attributes := #[] }] 33 0 #[] #[])
  fields := #[]
  methods := #[k0m0]
  instanceTypes := #[]
  staticTypes := #[]
  resolved := Array.replicate 124 none
  statics := none }

def pool1 : Array CpInfo := pool [(2, .class_ 4), (1, u "java/lang/Object"), (0, u "<init>"), (0, u "()V"), (0, .methodref 8 9), (0, .class_ 10), (0, .nameAndType 11 12), (0, u "com/example/arborway/arborway/sim/WalkOverPinLaw"), (0, u "delayOf"), (0, u "(III)D"), (0, .methodref 8 14), (0, .nameAndType 15 16), (0, u "depthOf"), (0, u "(II)I"), (0, .class_ 18), (0, u "com/example/arborway/arborway/sim/RunTally$Walk"), (0, .methodref 17 20), (0, .nameAndType 5 21), (0, u "([I[D[ZD)V"), (0, .methodref 17 23), (0, .nameAndType 24 25), (0, u "over"), (0, u "(D)I"), (0, .methodref 8 27), (0, .nameAndType 28 29), (0, u "expect"), (0, u "(IIII)I"), (0, .methodref 8 31), (0, .nameAndType 32 33), (0, u "unreached"), (0, u "(II)Z"), (2, .double 9218868437227405312), (3, u "law"), (0, u "(IIIIII)Z")] 13

def k1m0 : Method := { name := "<init>", desc := "()V", sig := { parameters := [], returnType := none }, accessFlags := 2, code := none }
def k1c1 : Code := { maxStack := 7, maxLocals := 12, code := code, exceptionTable := #[], attributes := #[] }
def k1m1 : Method := { name := "law", desc := "(IIIIII)Z", sig := { parameters := [.int, .int, .int, .int, .int, .int], returnType := some .boolean }, accessFlags := 9, code := some k1c1 }
def k1c2 : Code := { maxStack := 3, maxLocals := 2, code := method_3_code, exceptionTable := #[], attributes := #[] }
def k1m2 : Method := { name := "unreached", desc := "(II)Z", sig := { parameters := [.int, .int], returnType := some .boolean }, accessFlags := 10, code := some k1c2 }
def k1c3 : Code := { maxStack := 2, maxLocals := 3, code := method_4_code, exceptionTable := #[], attributes := #[] }
def k1m3 : Method := { name := "delayOf", desc := "(III)D", sig := { parameters := [.int, .int, .int], returnType := some .double }, accessFlags := 10, code := some k1c3 }
def k1c4 : Code := { maxStack := 2, maxLocals := 2, code := method_5_code, exceptionTable := #[], attributes := #[] }
def k1m4 : Method := { name := "depthOf", desc := "(II)I", sig := { parameters := [.int, .int], returnType := some .int }, accessFlags := 10, code := some k1c4 }
def k1c5 : Code := { maxStack := 2, maxLocals := 4, code := method_6_code, exceptionTable := #[], attributes := #[] }
def k1m5 : Method := { name := "expect", desc := "(IIII)I", sig := { parameters := [.int, .int, .int, .int], returnType := some .int }, accessFlags := 10, code := some k1c5 }
/-- com/example/arborway/arborway/sim/WalkOverPinLaw -/
def k1 : Class := { plain "com/example/arborway/arborway/sim/WalkOverPinLaw" (some 0) with
  accessFlags := 49
  interfaces := #[]
  cf := some (fileOf pool1 8 #[] #[{ accessFlags := 2, nameIndex := 5, descriptorIndex := 6, attributes := #[] }, { accessFlags := 9, nameIndex := 40, descriptorIndex := 41, attributes := #[] }, { accessFlags := 10, nameIndex := 32, descriptorIndex := 33, attributes := #[] }, { accessFlags := 10, nameIndex := 11, descriptorIndex := 12, attributes := #[] }, { accessFlags := 10, nameIndex := 15, descriptorIndex := 16, attributes := #[] }, { accessFlags := 10, nameIndex := 28, descriptorIndex := 29, attributes := #[] }] 49 2 #[] #[])
  fields := #[]
  methods := #[k1m0, k1m1, k1m2, k1m3, k1m4, k1m5]
  instanceTypes := #[]
  staticTypes := #[]
  resolved := Array.replicate 55 none
  statics := none }

def pool2 : Array CpInfo := pool [(1, .methodref 2 3), (0, .class_ 4), (0, .nameAndType 5 6), (0, u "java/lang/Object"), (0, u "<init>"), (0, u "()V"), (0, .class_ 8), (0, u "java/lang/Record")] 13

def k2c0 : Code := { maxStack := 1, maxLocals := 1, code := jdk_30_method_1_code, exceptionTable := #[], attributes := #[] }
def k2m0 : Method := { name := "<init>", desc := "()V", sig := { parameters := [], returnType := none }, accessFlags := 4, code := some k2c0 }
/-- java/lang/Record -/
def k2 : Class := { plain "java/lang/Record" (some 0) with
  accessFlags := 1057
  interfaces := #[]
  cf := some (fileOf pool2 7 #[] #[{ accessFlags := 4, nameIndex := 5, descriptorIndex := 6, attributes := #[] }] 1057 2 #[] #[])
  fields := #[]
  methods := #[k2m0]
  instanceTypes := #[]
  staticTypes := #[]
  resolved := Array.replicate 22 none
  statics := none }

def pool3 : Array CpInfo := pool [(1, .methodref 2 3), (0, .class_ 4), (0, .nameAndType 5 6), (0, u "java/lang/Record"), (0, u "<init>"), (0, u "()V"), (0, .fieldref 8 9), (0, .class_ 10), (0, .nameAndType 11 12), (0, u "com/example/arborway/arborway/sim/RunTally$Walk"), (0, u "depth"), (0, u "[I"), (0, .fieldref 8 14), (0, .nameAndType 15 16), (0, u "rootDelayMs"), (0, u "[D"), (0, .fieldref 8 18), (0, .nameAndType 19 20), (0, u "running"), (0, u "[Z"), (0, .fieldref 8 22), (0, .nameAndType 23 24), (0, u "costMs"), (0, u "D"), (22, u "([I[D[ZD)V"), (9, u "over"), (0, u "(D)I"), (11, .class_ 71), (0, u "com/example/arborway/arborway/sim/RunTally")] 22

def k3c0 : Code := { maxStack := 3, maxLocals := 6, code := prog_76_method_1_code, exceptionTable := #[], attributes := #[] }
def k3m0 : Method := { name := "<init>", desc := "([I[D[ZD)V", sig := { parameters := [(.array .int), (.array .double), (.array .boolean), .double], returnType := none }, accessFlags := 0, code := some k3c0 }
def k3c1 : Code := { maxStack := 4, maxLocals := 5, code := prog_76_method_4_code, exceptionTable := #[], attributes := #[] }
def k3m1 : Method := { name := "over", desc := "(D)I", sig := { parameters := [.double], returnType := some .int }, accessFlags := 0, code := some k3c1 }
/-- com/example/arborway/arborway/sim/RunTally$Walk -/
def k3 : Class := { plain "com/example/arborway/arborway/sim/RunTally$Walk" (some 2) with
  accessFlags := 48
  interfaces := #[]
  cf := some (fileOf pool3 8 #[.nestHost 70] #[{ accessFlags := 0, nameIndex := 5, descriptorIndex := 47, attributes := #[] }, { accessFlags := 0, nameIndex := 57, descriptorIndex := 58, attributes := #[] }] 48 2 #[] #[{ accessFlags := 18, nameIndex := 11, descriptorIndex := 12, attributes := #[] }, { accessFlags := 18, nameIndex := 15, descriptorIndex := 16, attributes := #[] }, { accessFlags := 18, nameIndex := 19, descriptorIndex := 20, attributes := #[] }, { accessFlags := 18, nameIndex := 23, descriptorIndex := 24, attributes := #[] }])
  fields := #[{ name := "depth", type := (.array .int), accessFlags := 18, slot := 0, constantValue := 0 }, { name := "rootDelayMs", type := (.array .double), accessFlags := 18, slot := 1, constantValue := 0 }, { name := "running", type := (.array .boolean), accessFlags := 18, slot := 2, constantValue := 0 }, { name := "costMs", type := .double, accessFlags := 18, slot := 3, constantValue := 0 }]
  methods := #[k3m0, k3m1]
  instanceTypes := #[(.array .int), (.array .double), (.array .boolean), .double]
  staticTypes := #[]
  resolved := Array.replicate 94 none
  statics := none }

def pool4 : Array CpInfo := pool [(1, u "java/lang/Cloneable"), (0, .class_ 1), (0, u "java/lang/Object"), (0, .class_ 3)] 3

/-- java/lang/Cloneable -/
def k4 : Class := { plain "java/lang/Cloneable" (some 0) with
  accessFlags := 1537
  interfaces := #[]
  cf := some (fileOf pool4 2 #[] #[] 1537 4 #[] #[])
  fields := #[]
  methods := #[]
  instanceTypes := #[]
  staticTypes := #[]
  resolved := Array.replicate 8 none
  statics := none }

def pool5 : Array CpInfo := pool [(1, u "java/io/Serializable"), (0, .class_ 1), (0, u "java/lang/Object"), (0, .class_ 3)] 3

/-- java/io/Serializable -/
def k5 : Class := { plain "java/io/Serializable" (some 0) with
  accessFlags := 1537
  interfaces := #[]
  cf := some (fileOf pool5 2 #[] #[] 1537 4 #[] #[])
  fields := #[]
  methods := #[]
  instanceTypes := #[]
  staticTypes := #[]
  resolved := Array.replicate 8 none
  statics := none }

/-- the primitive boolean -/
def k6 : Class := { plain "boolean" none with kind := .primitive 'Z', accessFlags := 0x411 }
/-- [Z -/
def k7 : Class := { plain "[Z" (some 0) with kind := .array 6 .boolean, interfaces := #[4, 5], accessFlags := 1041 }

/-- the primitive byte -/
def k8 : Class := { plain "byte" none with kind := .primitive 'B', accessFlags := 0x411 }
/-- [B -/
def k9 : Class := { plain "[B" (some 0) with kind := .array 8 .byte, interfaces := #[4, 5], accessFlags := 1041 }

/-- the primitive double -/
def k10 : Class := { plain "double" none with kind := .primitive 'D', accessFlags := 0x411 }
/-- [D -/
def k11 : Class := { plain "[D" (some 0) with kind := .array 10 .double, interfaces := #[4, 5], accessFlags := 1041 }

/-- the primitive int -/
def k12 : Class := { plain "int" none with kind := .primitive 'I', accessFlags := 0x411 }
/-- [I -/
def k13 : Class := { plain "[I" (some 0) with kind := .array 12 .int, interfaces := #[4, 5], accessFlags := 1041 }

def heap : Heap := #[]
def classes : Array Class := #[k0, k1, k2, k3, k4, k5, k6, k7, k8, k9, k10, k11, k12, k13]
def interned : List (Array UInt16 × Addr) := []
def slotsUsed : Nat := 0
def theMethod : MethodId := ⟨1, 1⟩
def args0 : Array Value := #[.int 5, .int 6, .int 3, .int 1, .int 7, .int 9]
def aboutOver (below : List Frame) : State where
  vm := { classes := classes, interned := interned.toArray }
  heap := heap
  slotsUsed := slotsUsed
  threads := #[{ frames := .invoking theMethod args0 :: below }]
def below0 : List Frame := [.native { method := ⟨0, 0⟩, args := #[] }]
def about1 : State := aboutOver below0
def p0 : Program := .bare "" "" ""
def e0 : Env := launch0.env 0 0 0
theorem w_frames : about1.frames = Frame.invoking theMethod args0 :: below0 := rfl
set_option maxRecDepth 65536 in
theorem w_args : argsFit about1.vm theMethod args0 = true := by decide +kernel
set_option maxRecDepth 65536 in
theorem w_heap : heapFits about1 = true := by decide +kernel
set_option maxRecDepth 65536 in
theorem w_runnable : about1.curStatus? = some .runnable := by decide +kernel
set_option maxRecDepth 65536 in
theorem w_alone : about1.alone = true := by decide +kernel
set_option maxRecDepth 65536 in
theorem w_named : about1.methodNamed? x = some theMethod := by decide +kernel
set_option maxRecDepth 65536 in
theorem w_hears : about1.hears theMethod below0 = true := by decide +kernel
set_option maxRecDepth 65536 in
theorem w_ripe : about1.ripe theMethod args0 below0 = true := by decide +kernel
theorem w_running : about1.status = .running := rfl
set_option maxRecDepth 65536 in
theorem w_room : about1.hasRoom e0.platform room_1 = true :=
  launch0.hasRoom_least _ room_1 (by decide +kernel) (by decide +kernel) (by decide +kernel) (by decide +kernel) (by decide +kernel) (by decide +kernel)
theorem allAtoms_all (ts : List Jvm.Cond) (a : Array Jvm.Value) (st : Jvm.State) : (allAtoms ts).before a st = ts.all (fun c => c.before a st) := by
  induction ts with
  | nil => rfl
  | cons c t ih =>
    show (Jvm.Cond.and c (allAtoms t)).before a st = _
    rw [Jvm.Cond.before_and, ih, List.all_cons]
def words1 : List Jvm.Cond := Jvm.Cond.code x code maxLocals ret :: tables_1
/-- a 'code' word, met by the world's own term for the bytes: nothing is compared byte by byte -/
theorem code_word {y : MethodName} {bytes : ByteArray} {mx : Nat} {rt : Option FieldType} {a : Array Value} {s : State} {m : MethodId} {meth : Method} {c : Code} (h1 : s.methodNamed? y = some m) (h2 : s.vm.method? m = some meth) (h3 : meth.code = some c) (h4 : c.code = bytes)
    (h5 : (c.maxLocals == mx && c.exceptionTable.isEmpty && decide (c.maxStack ≤ mostOperands) && decide (meth.sig.returnType = rt) && !meth.locks && decide (parseMethodDescriptor y.desc = some meth.sig)) = true) : (Jvm.Cond.code y bytes mx rt).before a s = true := by
  simp only [Bool.and_eq_true, beq_iff_eq, Bool.not_eq_true', decide_eq_true_eq] at h5
  obtain ⟨⟨⟨⟨⟨g1, g2⟩, g3⟩, g4⟩, g5⟩, g6⟩ := h5
  simp [Cond.before, Cond.holds, Cond.value, h1, h2, h3, h4, g1, g2, g3, g4, g5, g6]
def isCode : Jvm.Cond → Bool
  | .code _ _ _ _ => true
  | _ => false
theorem all_split {L : List Jvm.Cond} {P : Jvm.Cond → Bool} (h1 : L.all (fun c => isCode c || P c) = true) (h2 : ∀ c ∈ L.filter isCode, P c = true) : L.all P = true := by
  refine List.all_eq_true.mpr fun c hc => ?_
  have h := List.all_eq_true.mp h1 c hc
  rcases Bool.eq_false_or_eq_true (isCode c) with hi | hi
  · exact h2 c (List.mem_filter.mpr ⟨hc, hi⟩)
  · simpa [hi] using h
set_option maxRecDepth 65536 in
theorem w_c0 : (Jvm.Cond.code x code maxLocals ret).before args0 about1 = true := code_word (m := ⟨1, 1⟩) (meth := k1m1) (c := k1c1) (by decide +kernel) rfl rfl rfl (by decide +kernel)
set_option maxRecDepth 65536 in
theorem w_c1 : (Jvm.Cond.code ({ cls := "com/example/arborway/arborway/sim/WalkOverPinLaw", name := "delayOf", desc := "(III)D" } : Jvm.MethodName) method_4_code (3 : Nat) (Option.some Jvm.ClassFile.FieldType.double)).before args0 about1 = true := code_word (m := ⟨1, 3⟩) (meth := k1m3) (c := k1c3) (by decide +kernel) rfl rfl rfl (by decide +kernel)
set_option maxRecDepth 65536 in
theorem w_c2 : (Jvm.Cond.code ({ cls := "com/example/arborway/arborway/sim/WalkOverPinLaw", name := "unreached", desc := "(II)Z" } : Jvm.MethodName) method_3_code (2 : Nat) (Option.some Jvm.ClassFile.FieldType.boolean)).before args0 about1 = true := code_word (m := ⟨1, 2⟩) (meth := k1m2) (c := k1c2) (by decide +kernel) rfl rfl rfl (by decide +kernel)
set_option maxRecDepth 65536 in
theorem w_c3 : (Jvm.Cond.code ({ cls := "com/example/arborway/arborway/sim/WalkOverPinLaw", name := "depthOf", desc := "(II)I" } : Jvm.MethodName) method_5_code (2 : Nat) (Option.some Jvm.ClassFile.FieldType.int)).before args0 about1 = true := code_word (m := ⟨1, 4⟩) (meth := k1m4) (c := k1c4) (by decide +kernel) rfl rfl rfl (by decide +kernel)
set_option maxRecDepth 65536 in
theorem w_c4 : (Jvm.Cond.code ({ cls := "com/example/arborway/arborway/sim/RunTally$Walk", name := "<init>", desc := "([I[D[ZD)V" } : Jvm.MethodName) prog_76_method_1_code (6 : Nat) (Option.none : Option Jvm.ClassFile.FieldType)).before args0 about1 = true := code_word (m := ⟨3, 0⟩) (meth := k3m0) (c := k3c0) (by decide +kernel) rfl rfl rfl (by decide +kernel)
set_option maxRecDepth 65536 in
theorem w_c5 : (Jvm.Cond.code ({ cls := "java/lang/Record", name := "<init>", desc := "()V" } : Jvm.MethodName) jdk_30_method_1_code (1 : Nat) (Option.none : Option Jvm.ClassFile.FieldType)).before args0 about1 = true := code_word (m := ⟨2, 0⟩) (meth := k2m0) (c := k2c0) (by decide +kernel) rfl rfl rfl (by decide +kernel)
set_option maxRecDepth 65536 in
theorem w_c6 : (Jvm.Cond.code ({ cls := "java/lang/Object", name := "<init>", desc := "()V" } : Jvm.MethodName) object_method_1_code (1 : Nat) (Option.none : Option Jvm.ClassFile.FieldType)).before args0 about1 = true := code_word (m := ⟨0, 0⟩) (meth := k0m0) (c := k0c0) (by decide +kernel) rfl rfl rfl (by decide +kernel)
set_option maxRecDepth 65536 in
theorem w_c7 : (Jvm.Cond.code ({ cls := "com/example/arborway/arborway/sim/RunTally$Walk", name := "over", desc := "(D)I" } : Jvm.MethodName) prog_76_method_4_code (5 : Nat) (Option.some Jvm.ClassFile.FieldType.int)).before args0 about1 = true := code_word (m := ⟨3, 1⟩) (meth := k3m1) (c := k3c1) (by decide +kernel) rfl rfl rfl (by decide +kernel)
set_option maxRecDepth 65536 in
theorem w_c8 : (Jvm.Cond.code ({ cls := "com/example/arborway/arborway/sim/WalkOverPinLaw", name := "expect", desc := "(IIII)I" } : Jvm.MethodName) method_6_code (4 : Nat) (Option.some Jvm.ClassFile.FieldType.int)).before args0 about1 = true := code_word (m := ⟨1, 5⟩) (meth := k1m5) (c := k1c5) (by decide +kernel) rfl rfl rfl (by decide +kernel)
def codes1 : List Jvm.Cond := [Jvm.Cond.code x code maxLocals ret, Jvm.Cond.code ({ cls := "com/example/arborway/arborway/sim/WalkOverPinLaw", name := "delayOf", desc := "(III)D" } : Jvm.MethodName) method_4_code (3 : Nat) (Option.some Jvm.ClassFile.FieldType.double), Jvm.Cond.code ({ cls := "com/example/arborway/arborway/sim/WalkOverPinLaw", name := "unreached", desc := "(II)Z" } : Jvm.MethodName) method_3_code (2 : Nat) (Option.some Jvm.ClassFile.FieldType.boolean), Jvm.Cond.code ({ cls := "com/example/arborway/arborway/sim/WalkOverPinLaw", name := "depthOf", desc := "(II)I" } : Jvm.MethodName) method_5_code (2 : Nat) (Option.some Jvm.ClassFile.FieldType.int), Jvm.Cond.code ({ cls := "com/example/arborway/arborway/sim/RunTally$Walk", name := "<init>", desc := "([I[D[ZD)V" } : Jvm.MethodName) prog_76_method_1_code (6 : Nat) (Option.none : Option Jvm.ClassFile.FieldType), Jvm.Cond.code ({ cls := "java/lang/Record", name := "<init>", desc := "()V" } : Jvm.MethodName) jdk_30_method_1_code (1 : Nat) (Option.none : Option Jvm.ClassFile.FieldType), Jvm.Cond.code ({ cls := "java/lang/Object", name := "<init>", desc := "()V" } : Jvm.MethodName) object_method_1_code (1 : Nat) (Option.none : Option Jvm.ClassFile.FieldType), Jvm.Cond.code ({ cls := "com/example/arborway/arborway/sim/RunTally$Walk", name := "over", desc := "(D)I" } : Jvm.MethodName) prog_76_method_4_code (5 : Nat) (Option.some Jvm.ClassFile.FieldType.int), Jvm.Cond.code ({ cls := "com/example/arborway/arborway/sim/WalkOverPinLaw", name := "expect", desc := "(IIII)I" } : Jvm.MethodName) method_6_code (4 : Nat) (Option.some Jvm.ClassFile.FieldType.int)]
set_option maxRecDepth 65536 in
theorem codes_eq : words1.filter isCode = codes1 := rfl
theorem w_codes : ∀ c ∈ words1.filter isCode, c.before args0 about1 = true := by
  rw [codes_eq]
  intro c hc
  simp only [codes1, List.mem_cons, List.not_mem_nil, or_false] at hc
  rcases hc with rfl | rfl | rfl | rfl | rfl | rfl | rfl | rfl | rfl
  · exact w_c0
  · exact w_c1
  · exact w_c2
  · exact w_c3
  · exact w_c4
  · exact w_c5
  · exact w_c6
  · exact w_c7
  · exact w_c8
set_option maxRecDepth 65536 in
theorem w_t1 : (words1.take 24).all (fun c => isCode c || c.before args0 about1) = true := by decide +kernel
set_option maxRecDepth 65536 in
theorem w_t2 : (words1.drop 24).all (fun c => isCode c || c.before args0 about1) = true := by decide +kernel
theorem w_tables : (allAtoms (Jvm.Cond.code x code maxLocals ret :: tables_1)).before args0 about1 = true := by
  rw [allAtoms_all]
  show words1.all (fun c => c.before args0 about1) = true
  refine all_split ?_ w_codes
  rw [← List.take_append_drop 24 words1, List.all_append, w_t1, w_t2]
  rfl
set_option maxRecDepth 65536 in
theorem w_case : (Jvm.Cond.and given_1 narrow_1).before args0 about1 = true := by decide +kernel
theorem w_applies : (headSpec (Jvm.Cond.code x code maxLocals ret :: tables_1) room_1).applies x e0.platform about1 = true :=
  (Spec.applies_iff w_frames).mpr ⟨w_running, w_runnable, w_alone, w_named, w_hears, w_ripe, w_room, w_tables⟩
theorem atStart : AtStart classFile x code maxLocals ret World_1 tables_1 room_1 Calls_1 rest_1 Pre_1 launch0 p0 e0 about1 theMethod args0 below0 :=
  ⟨lists_1, trivial, launch0.admits_env _ _ _, launch0.least_env, fairChoices_fair.cas, fairChoices_fair.clock, w_frames, w_args, w_heap, w_applies, trivial, trivial, w_case⟩
end start1
theorem witness_1 : WitnessClaimed_1 := ⟨start1.p0, start1.e0, start1.about1, start1.theMethod, start1.args0, start1.below0, start1.atStart⟩
end Jvm.Pilot.@@N@@
