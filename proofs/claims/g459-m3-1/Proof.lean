import JvmDerived
import JvmDerived.Pilot.@@N@@Statement
import JvmDerived.Pilot.@@N@@Code
@@BLOCK:NumsL.lean.txt@@
set_option linter.unusedVariables false
set_option linter.unusedSimpArgs false
namespace Jvm.RoadKit
open Sem ClassFile Op Lib Jvm.Stand Jvm.Free Jvm.LawKit
section New
variable {p : Program} {l : Launch} {e : Env} {R : Room} {s : State} {m : MethodId} {args : Array Value} {below : List Frame} {meth : Method} {c : Code} {T : State} {locs : List Loc} {cells slots : Nat}
theorem retI (X : Stand p l e R s m args below meth c T locs cells slots) (hx : p.tables.exec = Jvm.exec) {pc : Nat} {Ls : Array Slot} {z : Int32} {rest : List Value} (hret : meth.sig.returnType = some .int) (hd : decode c.code pc = .ok (.ireturn, 1)) {fs : List Frame}
    (hl : ∀ (f : JFrame) (acts : List Action), f.method = m → f.locked = none → f.entered = [] → (doReturn e (T.setTop f) acts (some (.int z))).1 = T.setFrames fs) : Steps p.tables e below (T.setTop (mkF m pc Ls (.int z :: rest))) (T.setFrames fs) := by
  have hm' : T.vm.method? m = some meth := X.method'
  have hn : narrow .int (.int z) = .int z := rfl
  show Steps p.tables e below (T.setTop { method := m, pc := pc, locals := Ls, stack := _ :: rest, locked := none }) _
  jvm_step X.here [X.here.top, hx, hd, hm', hret, hn]
  first | (intro acts; rw [hl _ acts rfl rfl rfl]) | rw [hl _ _ rfl rfl rfl]
  exact Steps.refl _
theorem own_retD (X : Stand p l e R s m args below meth c T locs cells slots) (hx : p.tables.exec = Jvm.exec) {pc : Nat} {Ls : Array Slot} {z : UInt64} {rest : List Value} (hret : meth.sig.returnType = some .double) (hd : decode c.code pc = .ok (.dreturn, 1)) {fs : List Frame}
    (hl : ∀ (f : JFrame) (acts : List Action), f.method = m → f.locked = none → f.entered = [] → (doReturn e (T.setTop f) acts (some (.double z))).1 = T.setFrames fs) : Steps p.tables e below (T.setTop (mkF m pc Ls (.double z :: rest))) (T.setFrames fs) := by
  have hm' : T.vm.method? m = some meth := X.method'
  have hn : narrow .double (.double z) = .double z := rfl
  show Steps p.tables e below (T.setTop { method := m, pc := pc, locals := Ls, stack := _ :: rest, locked := none }) _
  jvm_step X.here [X.here.top, hx, hd, hm', hret, hn]
  first | (intro acts; rw [hl _ acts rfl rfl rfl]) | rw [hl _ _ rfl rfl rfl]
  exact Steps.refl _
theorem own_mvM {Z s : State} {a0 args : Array Value} {own host : String} {y : MethodName} {index : Nat} (hZ : Z.Warmed39 s.vm) (w : (Cond.methodLinkNest own index y host).before a0 Z = true) : (Cond.methodLinkNest own index y host).before args s = true := (Cond.methodLinkNest_wide hZ w :)
theorem own_selP {Z s : State} {a0 args : Array Value} {y : MethodName} {n : Nat} (hZ : Z.Warmed39 s.vm) (wi : (Cond.instantiable y.cls n).before a0 Z = true) (wp : (Cond.privateMethod y).before a0 Z = true) (wm : (Cond.instanceMethod y).before a0 Z = true) (hy : y.cls ≠ "java/lang/invoke/MethodHandle" ∧ y.cls ≠ "java/lang/invoke/VarHandle") : (Cond.selects y.cls y y).before args s = true := by
  obtain ⟨c, k, hc, hk, -, hflags, -⟩ := Cond.instantiable_spec (mvT (args := args) hZ wi)
  have hitf : k.isInterface = false := by
    cases hi : k.isInterface
    · rfl
    · simp [hi] at hflags
  exact selects_self_of_private hc hk hitf (Cond.privateMethod_at (mvP hZ wp (args := args))) (mvT hZ wm) hy
end New
end Jvm.RoadKit
namespace Jvm.Pilot.@@N@@
open Jvm Jvm.ClassFile Sem Op Lib Jvm.Free Jvm.Stand Jvm.LawKit Jvm.RoadKit Bundle Jvm.Free.Fl Jvm.Pilot.@@N@@.Jvm.D
/-! my own laws on doubles: a result is a rounding of its exact value (monotone), exactness, the order -/
section OwnFloat
open Jvm.FP Jvm.FP.Core
/-- the value in units of 2^-1074 -/
def own_zv (a : UInt64) : Int := Core.zval Core.b64 (Core.val64 a)
abbrev own_U : Int := (Core.one64 : Int)
theorem own_U_pos : 0 < own_U := Int.natCast_pos.mpr Core.one64_pos
/-- r is N / D, rounded, as far as the order goes -/
def own_rnd (N D : Int) (r : UInt64) : Prop :=
  Core.val64 r ≠ .nan ∧ (∀ V, Core.val64 V ≠ .nan → own_zv V * D ≤ N → own_zv V ≤ own_zv r) ∧ (∀ V, Core.val64 V ≠ .nan → N ≤ own_zv V * D → own_zv r ≤ own_zv V)
theorem own_fin_ne {a : UInt64} (h : Core.DFin a) : Core.val64 a ≠ .nan := h.ne_nan
theorem own_pow0 : (2 : Nat) ^ (Core.b64.qmin - Core.b64.qmin).toNat = 1 := by rw [Int.sub_self]; rfl
theorem own_rnd_of_round {x : UInt64} {sg : Bool} {n : Nat} {e e0 : Int} (hx : Core.val64 x = Core.round Core.b64 (.fin sg n e)) (h0 : e0 ≤ Core.b64.qmin) (h0e : e0 ≤ e) :
    own_rnd (Core.signed sg (Core.inUnits n e e0)) (((2 ^ (Core.b64.qmin - e0).toNat : Nat) : Int)) x := by
  refine ⟨?_, fun V hV h => ?_, fun V hV h => ?_⟩
  · rw [hx]; intro q; have := Core.round_nan.mp q; cases this
  · have := Core.zval_round_ge Core.good_b64 (s := sg) (c := n) (q := e) (e0 := e0) (V := Core.val64 V) (Core.val64_fits V) hV h0 h0e h
    unfold own_zv; rw [hx]; exact this
  · have := Core.zval_round_le Core.good_b64 (s := sg) (c := n) (q := e) (e0 := e0) (V := Core.val64 V) (Core.val64_fits V) hV h0 h0e h
    unfold own_zv; rw [hx]; exact this
theorem own_dadd_rnd {a b : UInt64} (ha : Core.DFin a) (hb : Core.DFin b) : own_rnd (own_zv a + own_zv b) 1 (FP.dadd a b) := by
  obtain ⟨s, c, q, ea⟩ := ha
  obtain ⟨t, d, r, eb⟩ := hb
  have fa := Core.val64_fits a; have fb := Core.val64_fits b
  rw [ea] at fa; rw [eb] at fb
  obtain ⟨sg, n, e, h1, h2, h3⟩ := Core.sum_units fa fb
  have hv : Core.val64 (FP.dadd a b) = Core.round Core.b64 (.fin sg n e) := by
    show Core.val64 (Core.dadd a b) = _
    rw [Core.val64_dadd, ea, eb, h1]
  have := own_rnd_of_round hv (Int.le_refl _) h2
  rw [h3, own_pow0] at this
  unfold own_zv; rw [ea, eb]; exact this
theorem own_zv_dneg (a : UInt64) : own_zv (Core.dneg a) = -own_zv a := by
  unfold own_zv; rw [Core.val64_dneg, Core.zval_negate]
theorem own_fin_dneg {a : UInt64} (ha : Core.DFin a) : Core.DFin (Core.dneg a) := by
  obtain ⟨s, c, q, ea⟩ := ha
  exact ⟨!s, c, q, by rw [Core.val64_dneg, ea]; rfl⟩
theorem own_dneg_zv {a : UInt64} (ha : Core.DFin a) : Core.DFin (FP.dneg a) ∧ own_zv (FP.dneg a) = -own_zv a := by
  rw [FP.dneg_core ha.notNaN]; exact ⟨own_fin_dneg ha, own_zv_dneg a⟩
theorem own_dsub_rnd {a b : UInt64} (ha : Core.DFin a) (hb : Core.DFin b) : own_rnd (own_zv a - own_zv b) 1 (FP.dsub a b) := by
  have h := own_dadd_rnd ha (own_fin_dneg hb)
  rw [own_zv_dneg] at h
  have e : FP.dsub a b = FP.dadd a (Core.dneg b) := Core.dsub_eq a b
  rw [e, Int.sub_eq_add_neg]; exact h
theorem own_dmul_rnd {a b : UInt64} (ha : Core.DFin a) (hb : Core.DFin b) : own_rnd (own_zv a * own_zv b) own_U (FP.dmul a b) := by
  obtain ⟨s, c, q, ea⟩ := ha
  obtain ⟨t, d, r, eb⟩ := hb
  have fa := Core.val64_fits a; have fb := Core.val64_fits b
  rw [ea] at fa; rw [eb] at fb
  obtain ⟨h1, h2, h3⟩ := Core.product_units fa fb
  have hv : Core.val64 (FP.dmul a b) = Core.round Core.b64 (.fin (s != t) (c * d) (q + r)) := by
    show Core.val64 (Core.dmul a b) = _
    rw [Core.val64_dmul, ea, eb, h1]
  have hq := Core.qmin_neg Core.good_b64
  have := own_rnd_of_round (e0 := 2 * Core.b64.qmin) hv (by omega) h2
  rw [h3, Core.signed_xor, show Core.b64.qmin - 2 * Core.b64.qmin = -Core.b64.qmin by omega, Core.pow_qmin64] at this
  unfold own_zv; rw [ea, eb]; exact this
theorem own_ddiv_rnd {a b : UInt64} (ha : Core.DFin a) (hb : Core.DFin b) (hz : own_zv b ≠ 0) : own_rnd (if 0 < own_zv b then own_zv a * own_U else -(own_zv a * own_U)) (own_zv b).natAbs (FP.ddiv a b) := by
  obtain ⟨s, c, q, ea⟩ := ha
  obtain ⟨t, d, r, eb⟩ := hb
  have fa := Core.val64_fits a; have fb := Core.val64_fits b
  rw [ea] at fa; rw [eb] at fb
  have hq1 := fa.2.1; have hq2 := fb.2.1
  have hqm := Core.qmin_neg Core.good_b64
  have zb : own_zv b = Core.signed t (Core.inUnits d r Core.b64.qmin) := by unfold own_zv; rw [eb]; rfl
  have za : own_zv a = Core.signed s (Core.inUnits c q Core.b64.qmin) := by unfold own_zv; rw [ea]; rfl
  have d0 : d ≠ 0 := fun h => hz (by rw [zb, h]; unfold Core.inUnits; rw [Nat.zero_mul]; exact Core.signed_zero t)
  have hB : 0 < Core.inUnits d r Core.b64.qmin := Nat.mul_pos (Nat.pos_of_ne_zero d0) (Nat.two_pow_pos _)
  have hv : Core.val64 (FP.ddiv a b) = Core.roundRatio Core.b64 (s != t) c d (q - r) := by
    show Core.val64 (Core.ddiv a b) = _
    rw [Core.val64_ddiv, ea, eb]; show (if d = 0 then _ else _) = _; rw [if_neg d0]
  have e1 : Core.inUnits c (q - r) (Core.b64.qmin - (r - Core.b64.qmin)) = Core.inUnits c q Core.b64.qmin * Core.one64 := by
    unfold Core.inUnits
    rw [← Core.pow_qmin64, Nat.mul_assoc, ← Nat.pow_add, show (q - r - (Core.b64.qmin - (r - Core.b64.qmin))).toNat = (q - Core.b64.qmin).toNat + (-Core.b64.qmin).toNat by omega]
  have e2 : ∀ v : Nat, v * 2 ^ (Core.b64.qmin - (Core.b64.qmin - (r - Core.b64.qmin))).toNat * d = v * Core.inUnits d r Core.b64.qmin := fun v => by
    unfold Core.inUnits
    rw [show Core.b64.qmin - (Core.b64.qmin - (r - Core.b64.qmin)) = r - Core.b64.qmin by omega, Nat.mul_assoc, Nat.mul_comm (2 ^ _) d]
  have hle : ∀ V : Core.Datum, Core.fits Core.b64 V → V ≠ .nan → Core.inUnits c q Core.b64.qmin * Core.one64 ≤ Core.zmag Core.b64 V * Core.inUnits d r Core.b64.qmin → Core.zmag Core.b64 (Core.roundRatio Core.b64 (s != t) c d (q - r)) ≤ Core.zmag Core.b64 V := fun V hV hn h =>
    Core.zmag_roundRatio_le Core.good_b64 (e0 := Core.b64.qmin - (r - Core.b64.qmin)) (Nat.pos_of_ne_zero d0) hV hn (by omega) (by omega) (by rw [e1, e2]; exact h)
  have hge : ∀ V : Core.Datum, Core.fits Core.b64 V → V ≠ .nan → Core.zmag Core.b64 V * Core.inUnits d r Core.b64.qmin ≤ Core.inUnits c q Core.b64.qmin * Core.one64 → Core.zmag Core.b64 V ≤ Core.zmag Core.b64 (Core.roundRatio Core.b64 (s != t) c d (q - r)) := fun V hV hn h =>
    Core.zmag_roundRatio_ge Core.good_b64 (e0 := Core.b64.qmin - (r - Core.b64.qmin)) (Nat.pos_of_ne_zero d0) hV (by omega) (by omega) (by rw [e1, e2]; exact h)
  have zr : own_zv (FP.ddiv a b) = Core.signed (s != t) (Core.zmag Core.b64 (Core.roundRatio Core.b64 (s != t) c d (q - r))) := by
    unfold own_zv; rw [hv]; unfold Core.zval; rw [Core.sgn_roundRatio]
  have hN : (if 0 < own_zv b then own_zv a * own_U else -(own_zv a * own_U)) = Core.signed (s != t) (Core.inUnits c q Core.b64.qmin * Core.one64) := by
    rw [zb, za, ← Core.signed_mul]
    cases s <;> cases t <;> simp only [Core.signed, if_true, if_false, Bool.false_eq_true, bne_self_eq_false, Bool.true_bne, Bool.false_bne, Bool.not_false, Bool.not_true] <;> split <;> omega
  have hD : ((own_zv b).natAbs : Int) = (Core.inUnits d r Core.b64.qmin : Nat) := by rw [zb, Core.natAbs_signed]
  have hzz : ∀ v : Nat, v * Core.inUnits d r Core.b64.qmin = 0 → v = 0 := fun v h => by rcases Nat.mul_eq_zero.mp h with h | h <;> omega
  rw [hN, hD]
  refine ⟨by rw [hv]; exact Core.roundRatio_ne_nan _ _ _ _ _, fun V hV h => ?_, fun V hV h => ?_⟩
  all_goals
    have h1 := hle _ (Core.val64_fits V) hV; have h2 := hge _ (Core.val64_fits V) hV; have h3 := hzz (Core.zmag Core.b64 (Core.val64 V))
    rw [zr]
    rw [show own_zv V = Core.signed (Core.sgn (Core.val64 V)) (Core.zmag Core.b64 (Core.val64 V)) from rfl] at h ⊢
    rw [← Core.signed_mul] at h
    generalize Core.zmag Core.b64 (Core.val64 V) * Core.inUnits d r Core.b64.qmin = vP at *
    generalize Core.inUnits c q Core.b64.qmin * Core.one64 = A at *
    generalize Core.sgn (Core.val64 V) = tV at *
    generalize (s != t) = st at *
    cases st <;> cases tV <;> simp only [Core.signed, if_true, Bool.false_eq_true, if_false] at h ⊢
    all_goals first
      | omega
      | (have := h1 (by omega); omega)
      | (have := h2 (by omega); omega)
      | (have := h1 (by omega); have := h3 (by omega); omega)
      | (have := h2 (by omega); have := h3 (by omega); omega)
/-- numbers of 53 digits are doubles -/
theorem own_rep (c : Int) (j : Nat) (hc : c.natAbs < 2 ^ 53) (hj : j ≤ 2045) : ∃ V, Core.DFin V ∧ own_zv V = c * ((2 ^ j : Nat) : Int) := by
  have hq1 : Core.b64.qmin = -1074 := Core.qmin_b64
  have hq2 : Core.b64.qmax = 971 := by decide
  obtain ⟨c', q', h1, h2⟩ := Core.round_exact Core.good_b64 (decide (c < 0)) (c := c.natAbs) (q := Core.b64.qmin + j) hc (by omega) (by omega)
  have hv : Core.val64 (Core.of64 (Core.round Core.b64 (.fin (decide (c < 0)) c.natAbs (Core.b64.qmin + j)))) = .fin (decide (c < 0)) c' q' := by
    rw [Core.val64_of64 (Core.round_fits Core.good_b64 _), h1]
  refine ⟨_, ⟨_, _, _, hv⟩, ?_⟩
  unfold own_zv; rw [hv]
  show Core.signed (decide (c < 0)) (Core.inUnits c' q' Core.b64.qmin) = _
  rw [h2]; unfold Core.inUnits
  rw [Core.signed_mul, show (Core.b64.qmin + (j : Int) - Core.b64.qmin).toNat = j by omega]
  congr 1
  by_cases h : c < 0
  · simp only [Core.signed, h, decide_true, if_true]; omega
  · simp only [Core.signed, h, decide_false, Bool.false_eq_true, if_false]; omega
theorem own_zv_lt {a : UInt64} (h : Core.DFin a) : (own_zv a).natAbs < Core.b64.tails * 2 ^ (Core.b64.exps - 2) := by
  have := Core.DFin.zval_lt h
  unfold own_zv Core.zval; rw [Core.natAbs_signed]; exact this
theorem own_fin_of {r V : UInt64} (hr : Core.val64 r ≠ .nan) (hV : Core.DFin V) (h : (own_zv r).natAbs ≤ (own_zv V).natAbs) : Core.DFin r := by
  cases e : Core.val64 r with
  | nan => exact absurd e hr
  | inf s =>
    have h1 := own_zv_lt hV
    have h2 : (own_zv r).natAbs = Core.b64.tails * 2 ^ (Core.b64.exps - 2) := by unfold own_zv Core.zval; rw [Core.natAbs_signed, e]; rfl
    omega
  | fin s c q => exact ⟨s, c, q, e⟩
/-- what is representable is not rounded -/
theorem own_exactV {N D : Int} {r V : UInt64} (h : own_rnd N D r) (hV : Core.DFin V) (e : own_zv V * D = N) : Core.DFin r ∧ own_zv r = own_zv V := by
  have h1 := h.2.1 V hV.ne_nan (by omega)
  have h2 := h.2.2 V hV.ne_nan (by omega)
  have h3 : own_zv r = own_zv V := by omega
  exact ⟨own_fin_of h.1 hV (by rw [h3]; exact Nat.le_refl _), h3⟩
theorem own_exact {N D : Int} {r : UInt64} (h : own_rnd N D r) (c : Int) (j : Nat) (hc : c.natAbs < 2 ^ 53) (hj : j ≤ 2045) (e : c * ((2 ^ j : Nat) : Int) * D = N) : Core.DFin r ∧ own_zv r = c * ((2 ^ j : Nat) : Int) := by
  obtain ⟨V, f, z⟩ := own_rep c j hc hj
  rw [← z] at e ⊢
  exact own_exactV h f e
/-! the order -/
theorem own_dcmp {a b : UInt64} (ha : Core.val64 a ≠ .nan) (hb : Core.val64 b ≠ .nan) : FP.dcmp a b = some (compare (own_zv a) (own_zv b)) := Core.dcmp_zval ha hb
theorem own_cmpv {a b : UInt64} (ha : Core.val64 a ≠ .nan) (hb : Core.val64 b ≠ .nan) (o : CmpOp) : cmpValue (FP.dcmp a b) o = if own_zv a < own_zv b then -1 else if own_zv a = own_zv b then 0 else 1 := by
  rw [own_dcmp ha hb, Core.compare_ite]
  by_cases h1 : own_zv a < own_zv b
  · simp only [h1, if_true]; cases o <;> rfl
  · by_cases h2 : own_zv a = own_zv b
    · simp only [h2, Int.lt_irrefl, if_true, if_false]; cases o <;> rfl
    · simp only [h1, h2, if_false]; cases o <;> rfl
theorem own_cmp_le {a b : UInt64} (ha : Core.val64 a ≠ .nan) (hb : Core.val64 b ≠ .nan) (h : own_zv a ≤ own_zv b) (o : CmpOp) : ¬ ((0 : Int32) < cmpValue (FP.dcmp a b) o) := by
  rw [own_cmpv ha hb]
  by_cases h1 : own_zv a < own_zv b
  · rw [if_pos h1]; decide
  · rw [if_neg h1, if_pos (by omega)]; decide
theorem own_cmp_ge {a b : UInt64} (ha : Core.val64 a ≠ .nan) (hb : Core.val64 b ≠ .nan) (h : own_zv b ≤ own_zv a) (o : CmpOp) : ¬ (cmpValue (FP.dcmp a b) o < (0 : Int32)) := by
  rw [own_cmpv ha hb, if_neg (by omega)]
  by_cases h1 : own_zv a = own_zv b
  · rw [if_pos h1]; decide
  · rw [if_neg h1]; decide
theorem own_cmp_lt {a b : UInt64} (ha : Core.val64 a ≠ .nan) (hb : Core.val64 b ≠ .nan) (h : own_zv a < own_zv b) (o : CmpOp) : cmpValue (FP.dcmp a b) o < (0 : Int32) := by
  rw [own_cmpv ha hb, if_pos h]; decide
theorem own_cmp_gt {a b : UInt64} (ha : Core.val64 a ≠ .nan) (hb : Core.val64 b ≠ .nan) (h : own_zv b < own_zv a) (o : CmpOp) : (0 : Int32) < cmpValue (FP.dcmp a b) o := by
  rw [own_cmpv ha hb, if_neg (by omega), if_neg (by omega)]; decide
theorem own_cmp_eq {a b : UInt64} (ha : Core.val64 a ≠ .nan) (hb : Core.val64 b ≠ .nan) (h : own_zv a = own_zv b) (o : CmpOp) : cmpValue (FP.dcmp a b) o = (0 : Int32) := by
  rw [own_cmpv ha hb, if_neg (by omega), if_pos h]
theorem own_cmp_ne {a b : UInt64} (ha : Core.val64 a ≠ .nan) (hb : Core.val64 b ≠ .nan) (h : own_zv a ≠ own_zv b) (o : CmpOp) : ¬ (cmpValue (FP.dcmp a b) o = (0 : Int32)) := by
  rw [own_cmpv ha hb]
  by_cases h1 : own_zv a < own_zv b
  · rw [if_pos h1]; decide
  · rw [if_neg h1, if_neg h]; decide
/-! no NaN -/
theorem own_nn {a : UInt64} (h : Core.val64 a ≠ .nan) : NoNaN64 a := noNaN64_no.mpr ((Core.notNaN_iff a).mpr h)
theorem own_rnd_nn {N D : Int} {r : UInt64} (h : own_rnd N D r) : NoNaN64 r := own_nn h.1
theorem own_fin_nn {a : UInt64} (h : Core.DFin a) : NoNaN64 a := own_nn h.ne_nan
/-! whole numbers -/
theorem own_i2d (x : Int32) : Core.DFin (FP.i2d x) ∧ own_zv (FP.i2d x) = x.toInt * own_U := ⟨Core.i2d_fin x, Core.DInt_zval (Core.i2d_int x)⟩
theorem own_l2d {x : Int64} (h : x.toInt.natAbs ≤ 2 ^ 53) : Core.DFin (FP.l2d x) ∧ own_zv (FP.l2d x) = x.toInt * own_U := ⟨Core.l2d_fin x, Core.DInt_zval (Core.l2d_int h)⟩
theorem own_U_eq : own_U = ((2 ^ 1074 : Nat) : Int) := rfl
end OwnFloat
section OwnFloat2
open Jvm.FP Jvm.FP.Core
theorem own_lt_U {i j : Int} : i * own_U < j * own_U ↔ i < j := by
  have h := own_U_pos
  constructor
  · intro q; exact Int.lt_of_mul_lt_mul_right q (Int.le_of_lt h)
  · intro q; exact Int.mul_lt_mul_of_pos_right q h
theorem own_eq_U {i j : Int} : i * own_U = j * own_U ↔ i = j := by
  have h := own_U_pos
  constructor
  · intro q; exact Int.eq_of_mul_eq_mul_right (by omega) q
  · intro q; rw [q]
/-- a is the whole number i -/
def own_is (i : Int) (a : UInt64) : Prop := Core.DFin a ∧ own_zv a = i * own_U
theorem own_is_i2d (x : Int32) : own_is x.toInt (FP.i2d x) := own_i2d x
theorem own_is_neg0 : own_is 0 (9223372036854775808 : UInt64) := ⟨by rw [Core.fin_bits]; decide, by decide +kernel⟩
theorem own_is_0 : own_is 0 (0 : UInt64) := ⟨by rw [Core.fin_bits]; decide, by decide +kernel⟩
theorem own_cmpU {a b : UInt64} {i j : Int} (ha : own_is i a) (hb : own_is j b) (o : CmpOp) : cmpValue (FP.dcmp a b) o = if i < j then -1 else if i = j then 0 else 1 := by
  rw [own_cmpv ha.1.ne_nan hb.1.ne_nan, ha.2, hb.2]; simp only [own_lt_U, own_eq_U]
end OwnFloat2
section OwnFloat3
open Jvm.FP Jvm.FP.Core
theorem own_is_dneg {i : Int} {a : UInt64} (h : own_is i a) : own_is (-i) (FP.dneg a) := by
  obtain ⟨f, z⟩ := own_dneg_zv h.1
  exact ⟨f, by rw [z, h.2, Int.neg_mul]⟩
theorem own_self {a : UInt64} (h : Core.DFin a) (o : CmpOp) : cmpValue (FP.dcmp a a) o = (0 : Int32) := own_cmp_eq h.ne_nan h.ne_nan rfl o
/-- x - x is nought -/
theorem own_dsub_self {a : UInt64} (h : Core.DFin a) : FP.dsub a a = 0 := by
  obtain ⟨s, c, q, e⟩ := h
  exact Core.dsub_self e
end OwnFloat3
section OwnFloat4
open Jvm.FP Jvm.FP.Core
theorem own_rep_le (c : Int) (j : Nat) (hc : c.natAbs ≤ 2 ^ 53) (hj : j ≤ 2044) : ∃ V, Core.DFin V ∧ own_zv V = c * ((2 ^ j : Nat) : Int) := by
  by_cases h : c.natAbs < 2 ^ 53
  · exact own_rep c j h (by omega)
  · obtain ⟨V, f, z⟩ := own_rep (c / 2) (j + 1) (by omega) (by omega)
    refine ⟨V, f, ?_⟩
    rw [z, Nat.pow_succ, Int.natCast_mul]
    have : c = c / 2 * 2 := by omega
    rw [Int.mul_comm ((2 ^ j : Nat) : Int), ← Int.mul_assoc]
    have e : c / 2 * ((2 : Nat) : Int) = c := by omega
    rw [e]
theorem own_rnd_scale {N D k : Int} {r : UInt64} (hk : 0 < k) (h : own_rnd (N * k) (D * k) r) : own_rnd N D r := by
  refine ⟨h.1, fun V hV q => h.2.1 V hV ?_, fun V hV q => h.2.2 V hV ?_⟩
  · rw [← Int.mul_assoc]; exact Int.mul_le_mul_of_nonneg_right q (Int.le_of_lt hk)
  · rw [← Int.mul_assoc]; exact Int.mul_le_mul_of_nonneg_right q (Int.le_of_lt hk)
/-- the relative error, one unit in the last place at the most -/
theorem own_rel {N D : Int} {r : UInt64} (h : own_rnd N D r) (hD : 0 < D) (lo : 4503599627370496 * D ≤ N) (hi : N / D < ((2 ^ 2096 : Nat) : Int)) :
    Core.DFin r ∧ 4503599627370496 * (own_zv r * D - N) ≤ N ∧ 4503599627370496 * (N - own_zv r * D) ≤ N := by
  have hM : 4503599627370496 ≤ N / D := Int.le_ediv_of_mul_le hD lo
  obtain ⟨m, hm⟩ : ∃ m : Nat, N / D = (m : Int) := ⟨(N / D).toNat, by omega⟩
  have hN := Int.mul_ediv_add_emod N D
  have hr0 := Int.emod_nonneg N (show D ≠ 0 by omega)
  have hr1 := Int.emod_lt_of_pos N hD
  have m0 : m ≠ 0 := by omega
  have l1 : 2 ^ m.log2 ≤ m := Nat.log2_self_le m0
  have l2 : m < 2 ^ (m.log2 + 1) := Nat.lt_log2_self
  have l3 : 52 ≤ m.log2 := by
    apply Nat.le_of_lt_succ
    apply (Nat.pow_lt_pow_iff_right (by decide : 1 < 2)).mp
    exact Nat.lt_of_le_of_lt (show 2 ^ 52 ≤ m by omega) l2
  have l4 : m.log2 < 2096 := by
    apply (Nat.pow_lt_pow_iff_right (by decide : 1 < 2)).mp
    exact Nat.lt_of_le_of_lt l1 (by rw [hm] at hi; exact Int.ofNat_lt.mp hi)
  obtain ⟨e, he⟩ : ∃ e, m.log2 = e + 52 := ⟨m.log2 - 52, by omega⟩
  have hg : 0 < 2 ^ e := Nat.two_pow_pos e
  have p1 : 2 ^ m.log2 = 2 ^ e * 4503599627370496 := by rw [he, Nat.pow_add]
  have p2 : 2 ^ (m.log2 + 1) = 2 ^ e * 9007199254740992 := by rw [he, Nat.pow_add, Nat.pow_add]; omega
  have dm := Nat.div_add_mod m (2 ^ e)
  have ml := Nat.mod_lt m hg
  have k1 : 4503599627370496 ≤ m / 2 ^ e := (Nat.le_div_iff_mul_le hg).mpr (by rw [Nat.mul_comm]; omega)
  have k2 : m / 2 ^ e < 9007199254740992 := (Nat.div_lt_iff_lt_mul hg).mpr (by rw [Nat.mul_comm]; omega)
  obtain ⟨V1, f1, z1⟩ := own_rep_le ((m / 2 ^ e : Nat) : Int) e (by omega) (by omega)
  obtain ⟨V2, f2, z2⟩ := own_rep_le ((m / 2 ^ e + 1 : Nat) : Int) e (by omega) (by omega)
  have a1 : ((m / 2 ^ e : Nat) : Int) * ((2 ^ e : Nat) : Int) ≤ (m : Int) := by rw [← Int.natCast_mul]; exact Int.ofNat_le.mpr (Nat.div_mul_le_self _ _)
  have a2 : (m : Int) + 1 ≤ ((m / 2 ^ e + 1 : Nat) : Int) * ((2 ^ e : Nat) : Int) := by
    rw [← Int.natCast_mul]; have : m + 1 ≤ (m / 2 ^ e + 1) * 2 ^ e := by rw [Nat.add_mul, Nat.one_mul, Nat.mul_comm]; omega
    exact Int.ofNat_le.mpr this
  have a3 : ((m / 2 ^ e + 1 : Nat) : Int) * ((2 ^ e : Nat) : Int) = ((m / 2 ^ e : Nat) : Int) * ((2 ^ e : Nat) : Int) + ((2 ^ e : Nat) : Int) := by
    rw [Int.natCast_add, Int.add_mul]; simp
  have a4 : 4503599627370496 * ((2 ^ e : Nat) : Int) ≤ (m : Int) := by
    have : 2 ^ e * 4503599627370496 ≤ m := by omega
    omega
  have b1 : own_zv V1 * D ≤ N := by
    rw [z1]; have := Int.mul_le_mul_of_nonneg_right a1 (Int.le_of_lt hD); rw [hm, Int.mul_comm] at hN; omega
  have b2 : N ≤ own_zv V2 * D := by
    rw [z2]; have := Int.mul_le_mul_of_nonneg_right a2 (Int.le_of_lt hD); rw [Int.add_mul, Int.one_mul] at this; rw [hm, Int.mul_comm] at hN; omega
  have c1 := h.2.1 V1 f1.ne_nan b1
  have c2 := h.2.2 V2 f2.ne_nan b2
  rw [z1] at c1 b1; rw [z2] at c2 b2
  have d1 := Int.mul_le_mul_of_nonneg_right c1 (Int.le_of_lt hD)
  have d2 := Int.mul_le_mul_of_nonneg_right c2 (Int.le_of_lt hD)
  have d3 := Int.mul_le_mul_of_nonneg_right a4 (Int.le_of_lt hD)
  rw [a3, Int.add_mul] at d2 b2
  have d4 : (m : Int) * D ≤ N := by rw [hm, Int.mul_comm] at hN; omega
  rw [Int.mul_assoc] at d3
  refine ⟨own_fin_of h.1 f2 ?_, by omega, by omega⟩
  rw [z2]
  have s0 : 0 ≤ ((m / 2 ^ e : Nat) : Int) * ((2 ^ e : Nat) : Int) := Int.mul_nonneg (Int.natCast_nonneg _) (Int.natCast_nonneg _)
  omega
theorem own_is_mul {i j : Int} {a b : UInt64} (ha : own_is i a) (hb : own_is j b) (h : (i * j).natAbs < 2 ^ 53) : own_is (i * j) (FP.dmul a b) := by
  refine own_exact (own_dmul_rnd ha.1 hb.1) (i * j) 1074 h (by decide) ?_
  rw [ha.2, hb.2, ← own_U_eq]; simp only [Int.mul_assoc, Int.mul_comm, Int.mul_left_comm]
theorem own_is_add {i j : Int} {a b : UInt64} (ha : own_is i a) (hb : own_is j b) (h : (i + j).natAbs < 2 ^ 53) : own_is (i + j) (FP.dadd a b) := by
  refine own_exact (own_dadd_rnd ha.1 hb.1) (i + j) 1074 h (by decide) ?_
  rw [ha.2, hb.2, ← own_U_eq, Int.mul_one, Int.add_mul]
theorem own_is_sub {i j : Int} {a b : UInt64} (ha : own_is i a) (hb : own_is j b) (h : (i - j).natAbs < 2 ^ 53) : own_is (i - j) (FP.dsub a b) := by
  refine own_exact (own_dsub_rnd ha.1 hb.1) (i - j) 1074 h (by decide) ?_
  rw [ha.2, hb.2, ← own_U_eq, Int.mul_one, Int.sub_mul]
theorem own_is_l2d {x : Int64} (h : x.toInt.natAbs ≤ 2 ^ 53) : own_is x.toInt (FP.l2d x) := own_l2d h
/-- the quotient of two whole numbers, the divisor positive -/
theorem own_is_div_rnd {i j : Int} {a b : UInt64} (ha : own_is i a) (hb : own_is j b) (hj : 0 < j) : own_rnd (i * own_U) j (FP.ddiv a b) := by
  have hU := own_U_pos
  have hz : 0 < own_zv b := by rw [hb.2]; exact Int.mul_pos hj hU
  have h := own_ddiv_rnd ha.1 hb.1 (by omega)
  rw [if_pos hz, Int.natAbs_of_nonneg (Int.le_of_lt hz), ha.2, hb.2] at h
  exact own_rnd_scale hU h
end OwnFloat4
section OwnFloat5
open Jvm.FP Jvm.FP.Core
/-- a is c * 2^(j - 1074) -/
def own_at (c : Int) (j : Nat) (a : UInt64) : Prop := Core.DFin a ∧ own_zv a = c * ((2 ^ j : Nat) : Int)
theorem own_at_is {i : Int} {a : UInt64} (h : own_is i a) : own_at i 1074 a := h
theorem own_at_add {c1 c2 : Int} {j : Nat} {a b : UInt64} (ha : own_at c1 j a) (hb : own_at c2 j b) (h : (c1 + c2).natAbs < 2 ^ 53) (hj : j ≤ 2045) : own_at (c1 + c2) j (FP.dadd a b) := by
  refine own_exact (own_dadd_rnd ha.1 hb.1) (c1 + c2) j h hj ?_
  rw [ha.2, hb.2, Int.mul_one, Int.add_mul]
theorem own_at_sub {c1 c2 : Int} {j : Nat} {a b : UInt64} (ha : own_at c1 j a) (hb : own_at c2 j b) (h : (c1 - c2).natAbs < 2 ^ 53) (hj : j ≤ 2045) : own_at (c1 - c2) j (FP.dsub a b) := by
  refine own_exact (own_dsub_rnd ha.1 hb.1) (c1 - c2) j h hj ?_
  rw [ha.2, hb.2, Int.mul_one, Int.sub_mul]
theorem own_at_mul {c1 c2 : Int} {j1 j2 : Nat} {a b : UInt64} (ha : own_at c1 j1 a) (hb : own_at c2 j2 b) (j : Nat) (e : j1 + j2 = j + 1074) (h : (c1 * c2).natAbs < 2 ^ 53) (hj : j ≤ 2045) : own_at (c1 * c2) j (FP.dmul a b) := by
  refine own_exact (own_dmul_rnd ha.1 hb.1) (c1 * c2) j h hj ?_
  have p : ((2 ^ j : Nat) : Int) * own_U = ((2 ^ j1 : Nat) : Int) * ((2 ^ j2 : Nat) : Int) := by rw [own_U_eq, ← Int.natCast_mul, ← Int.natCast_mul, ← Nat.pow_add, ← Nat.pow_add, e]
  rw [ha.2, hb.2, Int.mul_assoc (c1 * c2), p]; simp only [Int.mul_assoc, Int.mul_comm, Int.mul_left_comm]
/-- a quotient that is exact -/
theorem own_at_div {c1 c2 c : Int} {j1 j2 : Nat} {a b : UInt64} (ha : own_at c1 j1 a) (hb : own_at c2 j2 b) (hc : 0 < c2) (j : Nat) (e : c * c2 * ((2 ^ (j + j2) : Nat) : Int) = c1 * ((2 ^ (j1 + 1074) : Nat) : Int)) (h : c.natAbs < 2 ^ 53) (hj : j ≤ 2045) : own_at c j (FP.ddiv a b) := by
  have hz : 0 < own_zv b := by rw [hb.2]; exact Int.mul_pos hc (Int.natCast_pos.mpr (Nat.two_pow_pos _))
  have hr := own_ddiv_rnd ha.1 hb.1 (by omega)
  rw [if_pos hz, Int.natAbs_of_nonneg (Int.le_of_lt hz)] at hr
  refine own_exact hr c j h hj ?_
  rw [ha.2, hb.2, own_U_eq]
  rw [Nat.pow_add, Nat.pow_add, Int.natCast_mul, Int.natCast_mul] at e
  have l : c * ((2 ^ j : Nat) : Int) * (c2 * ((2 ^ j2 : Nat) : Int)) = c * c2 * (((2 ^ j : Nat) : Int) * ((2 ^ j2 : Nat) : Int)) := by simp only [Int.mul_assoc, Int.mul_comm, Int.mul_left_comm]
  rw [l, e, Int.mul_assoc]
theorem own_at_up {c : Int} {j i : Nat} {a : UInt64} (h : own_at c (j + i) a) : own_at (c * ((2 ^ i : Nat) : Int)) j a :=
  ⟨h.1, by rw [h.2, Nat.pow_add, Int.natCast_mul, Int.mul_assoc, Int.mul_comm ((2 ^ i : Nat) : Int)]⟩
theorem own_at_dn {c : Int} {j i : Nat} {a : UInt64} (h : own_at (c * ((2 ^ i : Nat) : Int)) j a) : own_at c (j + i) a :=
  ⟨h.1, by rw [h.2, Nat.pow_add, Int.natCast_mul, Int.mul_assoc, Int.mul_comm ((2 ^ i : Nat) : Int)]⟩
theorem own_at_eq {c : Int} {j : Nat} {a b : UInt64} (ha : own_at c j a) (hb : own_at c j b) (o : CmpOp) : cmpValue (FP.dcmp a b) o = (0 : Int32) := own_cmp_eq ha.1.ne_nan hb.1.ne_nan (by rw [ha.2, hb.2]) o
theorem own_at_nn {c : Int} {j : Nat} {a : UInt64} (h : own_at c j a) : NoNaN64 a := own_fin_nn h.1
end OwnFloat5
section OwnFloat6
open Jvm.FP Jvm.FP.Core
theorem own_is_div {k j : Int} {a b : UInt64} (ha : own_is (k * j) a) (hb : own_is j b) (hj : j ≠ 0) (h : k.natAbs < 2 ^ 53) : own_is k (FP.ddiv a b) := by
  have hU := own_U_pos
  have hz : own_zv b ≠ 0 := by rw [hb.2]; intro q; rcases Int.mul_eq_zero.mp q with q | q <;> omega
  refine own_exact (own_ddiv_rnd ha.1 hb.1 hz) k 1074 h (by decide) ?_
  rw [← own_U_eq]
  by_cases q : 0 < own_zv b
  · rw [if_pos q, Int.natAbs_of_nonneg (Int.le_of_lt q), ha.2, hb.2]; simp only [Int.mul_assoc, Int.mul_comm, Int.mul_left_comm]
  · rw [if_neg q]
    have e : ((own_zv b).natAbs : Int) = -own_zv b := by omega
    rw [e, ha.2, hb.2, Int.mul_neg]; congr 1; simp only [Int.mul_assoc, Int.mul_comm, Int.mul_left_comm]
theorem own_fin_between {r V1 V2 : UInt64} (hr : Core.val64 r ≠ .nan) (h1 : Core.DFin V1) (h2 : Core.DFin V2) (a : own_zv V1 ≤ own_zv r) (b : own_zv r ≤ own_zv V2) : Core.DFin r := by
  by_cases q : (own_zv r).natAbs ≤ (own_zv V1).natAbs
  · exact own_fin_of hr h1 q
  · exact own_fin_of hr h2 (by omega)
/-- a quotient by a whole number, of any dividend -/
theorem own_div_rnd {j : Int} {a b : UInt64} (ha : Core.DFin a) (hb : own_is j b) (hj : 0 < j) : own_rnd (own_zv a) j (FP.ddiv a b) := by
  have hU := own_U_pos
  have hz : 0 < own_zv b := by rw [hb.2]; exact Int.mul_pos hj hU
  have h := own_ddiv_rnd ha hb.1 (by omega)
  rw [if_pos hz, Int.natAbs_of_nonneg (Int.le_of_lt hz), hb.2] at h
  exact own_rnd_scale hU h
theorem own_rep_is (k : Int) (h : k.natAbs < 2 ^ 53) : ∃ V, own_is k V := own_rep k 1074 h (by decide)
end OwnFloat6
section OwnFloat7
open Jvm.FP Jvm.FP.Core
/-- one value, not nought: one pattern of bits -/
theorem own_bits {a b : UInt64} (ha : Core.DFin a) (hb : Core.DFin b) (e : own_zv a = own_zv b) (h : own_zv b ≠ 0) : a = b := by
  refine Core.eq_bits (fun q => h ?_) ?_
  · have := Core.DZero.zval q; exact this
  · show FP.dcmp a b = _
    rw [own_dcmp ha.ne_nan hb.ne_nan, e, Core.compare_self_int]
theorem own_at_bits {c : Int} {j : Nat} {a b : UInt64} (ha : own_at c j a) (hb : own_at c j b) (h : c ≠ 0) : a = b := by
  refine own_bits ha.1 hb.1 (by rw [ha.2, hb.2]) ?_
  rw [hb.2]; intro q
  rcases Int.mul_eq_zero.mp q with q | q
  · exact h q
  · have := Nat.two_pow_pos j; omega
theorem own_fin64 {a : UInt64} (h : Core.DFin a) : Fin64 a := fin64_core.mpr h
end OwnFloat7
section OwnFloat8
open Jvm.FP Jvm.FP.Core
/-- r's magnitude is A / B (units of 2^-1074), rounded to nearest -/
def own_rr (A B : Nat) (r : UInt64) : Prop := 0 < B ∧ ∃ s, Core.val64 r = Core.roundRatio Core.b64 s A B Core.b64.qmin
theorem own_mag {a : UInt64} : (own_zv a).natAbs = Core.zmag Core.b64 (Core.val64 a) := by unfold own_zv Core.zval; rw [Core.natAbs_signed]
theorem own_in0 (A : Nat) : Core.inUnits A Core.b64.qmin Core.b64.qmin = A := by unfold Core.inUnits; rw [own_pow0, Nat.mul_one]
theorem own_rr_mono {A1 B1 A2 B2 : Nat} {r1 r2 : UInt64} (h1 : own_rr A1 B1 r1) (h2 : own_rr A2 B2 r2) (f1 : Core.DFin r1) (f2 : Core.DFin r2) (h : A1 * B2 ≤ A2 * B1) : (own_zv r1).natAbs ≤ (own_zv r2).natAbs := by
  obtain ⟨b1, s1, e1⟩ := h1
  obtain ⟨b2, s2, e2⟩ := h2
  have n1 := f1.ne_nan; have n2 := f2.ne_nan
  rw [own_mag, own_mag]
  by_cases q1 : A1 ≤ Core.zmag Core.b64 (Core.val64 r2) * B1
  · have := Core.zmag_roundRatio_le Core.good_b64 (s := s1) (A := A1) (B := B1) (e := Core.b64.qmin) (e0 := Core.b64.qmin) b1 (Core.val64_fits r2) n2 (Int.le_refl _) (Int.le_refl _) (by rw [own_in0, own_pow0, Nat.mul_one]; exact q1)
    rw [← e1] at this; exact this
  · by_cases q2 : Core.zmag Core.b64 (Core.val64 r1) * B2 ≤ A2
    · have := Core.zmag_roundRatio_ge Core.good_b64 (s := s2) (A := A2) (B := B2) (e := Core.b64.qmin) (e0 := Core.b64.qmin) b2 (Core.val64_fits r1) (Int.le_refl _) (Int.le_refl _) (by rw [own_in0, own_pow0, Nat.mul_one]; exact q2)
      rw [← e2] at this; exact this
    · apply Nat.le_of_not_lt; intro hlt
      obtain ⟨t1, c1, x1, v1⟩ := f1
      obtain ⟨t2, c2, x2, v2⟩ := f2
      have g1 := Core.val64_fits r1; rw [v1] at g1
      have g2 := Core.val64_fits r2; rw [v2] at g2
      have d1 := Core.roundRatio_nearest Core.good_b64 (e0 := Core.b64.qmin) b1 (e1.symm.trans v1) g2.1 g2.2.1 (Int.le_refl _) (Int.le_refl _)
      have d2 := Core.roundRatio_nearest Core.good_b64 (e0 := Core.b64.qmin) b2 (e2.symm.trans v2) g1.1 g1.2.1 (Int.le_refl _) (Int.le_refl _)
      unfold Core.distance at d1 d2
      rw [own_in0] at d1 d2
      have z1 : Core.zmag Core.b64 (Core.val64 r1) = Core.inUnits c1 x1 Core.b64.qmin := by rw [v1]; rfl
      have z2 : Core.zmag Core.b64 (Core.val64 r2) = Core.inUnits c2 x2 Core.b64.qmin := by rw [v2]; rfl
      rw [← z1, ← z2] at d1 d2
      generalize hz1 : Core.zmag Core.b64 (Core.val64 r1) = Z1 at *
      generalize hz2 : Core.zmag Core.b64 (Core.val64 r2) = Z2 at *
      rw [← Int.natCast_mul, ← Int.natCast_mul] at d1 d2
      -- A1 < Z1 * B1 as well
      have k1 : A1 * B2 < Z1 * B1 * B2 := by
        have : A2 * B1 < Z1 * B2 * B1 := Nat.mul_lt_mul_of_pos_right (by omega) b1
        have e : Z1 * B2 * B1 = Z1 * B1 * B2 := by simp only [Nat.mul_assoc, Nat.mul_comm, Nat.mul_left_comm]
        omega
      have k2 : A1 < Z1 * B1 := Nat.lt_of_mul_lt_mul_right k1
      have k3 : Z2 * B1 * B2 < A2 * B1 := by
        have : Z2 * B1 * B2 < A1 * B2 := Nat.mul_lt_mul_of_pos_right (by omega) b2
        omega
      have k4 : Z2 * B2 < A2 := by
        have e : Z2 * B1 * B2 = Z2 * B2 * B1 := by simp only [Nat.mul_assoc, Nat.mul_comm, Nat.mul_left_comm]
        rw [e] at k3; exact Nat.lt_of_mul_lt_mul_right k3
      have m1 : (Z1 + Z2) * B1 ≤ 2 * A1 := by rw [Nat.add_mul]; omega
      have m2 : 2 * A2 ≤ (Z1 + Z2) * B2 := by rw [Nat.add_mul]; omega
      have m3 := Nat.mul_le_mul_right B2 m1
      have m4 := Nat.mul_le_mul_right B1 m2
      have e3 : (Z1 + Z2) * B1 * B2 = (Z1 + Z2) * B2 * B1 := by simp only [Nat.mul_assoc, Nat.mul_comm, Nat.mul_left_comm]
      have e4 : 2 * A1 * B2 = 2 * (A1 * B2) := Nat.mul_assoc _ _ _
      have e5 : 2 * A2 * B1 = 2 * (A2 * B1) := Nat.mul_assoc _ _ _
      have e6 : A1 * B2 = A2 * B1 := by omega
      have cg := Core.roundRatio_congr (f := Core.b64) (s := s1) (e := Core.b64.qmin) (e' := Core.b64.qmin) b1 b2 (by rw [own_pow0, Nat.mul_one, Nat.mul_one]; exact e6)
      have w1 := Core.zmag_roundRatio_le Core.good_b64 (s := s1) (A := A2) (B := B2) (e := Core.b64.qmin) (e0 := Core.b64.qmin) (V := Core.val64 r2) b2 (Core.val64_fits r2) n2 (Int.le_refl _) (Int.le_refl _)
      -- one sign or the other: the magnitudes are one
      have sg : Core.zmag Core.b64 (Core.roundRatio Core.b64 s1 A2 B2 Core.b64.qmin) = Core.zmag Core.b64 (Core.roundRatio Core.b64 s2 A2 B2 Core.b64.qmin) := by
        by_cases q : s1 = s2
        · rw [q]
        · have e : s2 = !s1 := by cases s1 <;> cases s2 <;> simp at q ⊢
          have ng := Core.negate_roundRatio Core.b64 s1 A2 B2 Core.b64.qmin
          rw [e, ← ng]
          cases Core.roundRatio Core.b64 s1 A2 B2 Core.b64.qmin <;> rfl
      rw [← cg, ← e1, ← e2, hz1, hz2] at sg
      omega
theorem own_rr_of_round {x : UInt64} {sg : Bool} {n : Nat} {e : Int} {A B : Nat} (hx : Core.val64 x = Core.round Core.b64 (.fin sg n e)) (hB : 0 < B) (h : n * B * 2 ^ (e - Core.b64.qmin).toNat = A * 1 * 2 ^ (Core.b64.qmin - e).toNat) : own_rr A B x :=
  ⟨hB, sg, hx.trans (Core.roundRatio_congr (f := Core.b64) (s := sg) (by decide) hB h)⟩
theorem own_rr_dmul {a b : UInt64} (ha : Core.DFin a) (hb : Core.DFin b) : own_rr ((own_zv a).natAbs * (own_zv b).natAbs) Core.one64 (FP.dmul a b) := by
  obtain ⟨s, c, q, ea⟩ := ha
  obtain ⟨t, d, r, eb⟩ := hb
  have fa := Core.val64_fits a; have fb := Core.val64_fits b
  rw [ea] at fa; rw [eb] at fb
  have h1 := fa.2.1; have h2 := fb.2.1
  have hq := Core.qmin_neg Core.good_b64
  have hv : Core.val64 (FP.dmul a b) = Core.round Core.b64 (.fin (s != t) (c * d) (q + r)) := by
    show Core.val64 (Core.dmul a b) = _
    rw [Core.val64_dmul, ea, eb]; rfl
  refine own_rr_of_round hv Core.one64_pos ?_
  rw [own_mag, own_mag, ea, eb]
  show _ = Core.inUnits c q Core.b64.qmin * Core.inUnits d r Core.b64.qmin * 1 * _
  unfold Core.inUnits
  rw [← Core.pow_qmin64, Nat.mul_one]
  have l : c * d * 2 ^ (-Core.b64.qmin).toNat * 2 ^ (q + r - Core.b64.qmin).toNat = c * d * 2 ^ ((-Core.b64.qmin).toNat + (q + r - Core.b64.qmin).toNat) := by rw [Nat.pow_add, Nat.mul_assoc (c * d)]
  have m : c * 2 ^ (q - Core.b64.qmin).toNat * (d * 2 ^ (r - Core.b64.qmin).toNat) * 2 ^ (Core.b64.qmin - (q + r)).toNat = c * d * 2 ^ ((q - Core.b64.qmin).toNat + (r - Core.b64.qmin).toNat + (Core.b64.qmin - (q + r)).toNat) := by
    rw [Nat.pow_add, Nat.pow_add]; simp only [Nat.mul_assoc, Nat.mul_comm, Nat.mul_left_comm]
  rw [l, m]; congr 2; omega
theorem own_rr_dadd {a b : UInt64} (ha : Core.DFin a) (hb : Core.DFin b) : own_rr (own_zv a + own_zv b).natAbs 1 (FP.dadd a b) := by
  obtain ⟨s, c, q, ea⟩ := ha
  obtain ⟨t, d, r, eb⟩ := hb
  have fa := Core.val64_fits a; have fb := Core.val64_fits b
  rw [ea] at fa; rw [eb] at fb
  obtain ⟨sg, n, e, h1, h2, h3⟩ := Core.sum_units fa fb
  have hv : Core.val64 (FP.dadd a b) = Core.round Core.b64 (.fin sg n e) := by
    show Core.val64 (Core.dadd a b) = _
    rw [Core.val64_dadd, ea, eb, h1]
  refine own_rr_of_round hv (by decide) ?_
  have z : (own_zv a + own_zv b).natAbs = Core.inUnits n e Core.b64.qmin := by
    unfold own_zv; rw [ea, eb, ← h3, Core.natAbs_signed]
  rw [z, Nat.mul_one, Nat.mul_one]
  unfold Core.inUnits
  rw [show (Core.b64.qmin - e).toNat = 0 by omega, Nat.pow_zero, Nat.mul_one]
theorem own_rr_ddiv {a b : UInt64} (ha : Core.DFin a) (hb : Core.DFin b) (hz : own_zv b ≠ 0) : own_rr ((own_zv a).natAbs * Core.one64) (own_zv b).natAbs (FP.ddiv a b) := by
  obtain ⟨s, c, q, ea⟩ := ha
  obtain ⟨t, d, r, eb⟩ := hb
  have fa := Core.val64_fits a; have fb := Core.val64_fits b
  rw [ea] at fa; rw [eb] at fb
  have h1 := fa.2.1; have h2 := fb.2.1
  have hq := Core.qmin_neg Core.good_b64
  have zb : own_zv b = Core.signed t (Core.inUnits d r Core.b64.qmin) := by unfold own_zv; rw [eb]; rfl
  have d0 : d ≠ 0 := fun h => hz (by rw [zb, h]; unfold Core.inUnits; rw [Nat.zero_mul]; exact Core.signed_zero t)
  have hv : Core.val64 (FP.ddiv a b) = Core.roundRatio Core.b64 (s != t) c d (q - r) := by
    show Core.val64 (Core.ddiv a b) = _
    rw [Core.val64_ddiv, ea, eb]; show (if d = 0 then _ else _) = _; rw [if_neg d0]
  refine ⟨by omega, s != t, hv.trans (Core.roundRatio_congr (Nat.pos_of_ne_zero d0) (by omega) ?_)⟩
  rw [own_mag, own_mag, ea, eb]
  show c * Core.inUnits d r Core.b64.qmin * _ = Core.inUnits c q Core.b64.qmin * Core.one64 * d * _
  unfold Core.inUnits
  rw [← Core.pow_qmin64]
  have l : c * (d * 2 ^ (r - Core.b64.qmin).toNat) * 2 ^ (q - r - Core.b64.qmin).toNat = c * d * 2 ^ ((r - Core.b64.qmin).toNat + (q - r - Core.b64.qmin).toNat) := by
    rw [Nat.pow_add]; simp only [Nat.mul_assoc, Nat.mul_comm, Nat.mul_left_comm]
  have m : c * 2 ^ (q - Core.b64.qmin).toNat * 2 ^ (-Core.b64.qmin).toNat * d * 2 ^ (Core.b64.qmin - (q - r)).toNat = c * d * 2 ^ ((q - Core.b64.qmin).toNat + (-Core.b64.qmin).toNat + (Core.b64.qmin - (q - r)).toNat) := by
    rw [Nat.pow_add, Nat.pow_add]; simp only [Nat.mul_assoc, Nat.mul_comm, Nat.mul_left_comm]
  rw [l, m]; congr 2; omega
end OwnFloat8
section OwnFloat9
open Jvm.FP Jvm.FP.Core
/-- a quotient by a power of two -/
theorem own_at_divp {c : Int} {j i : Nat} {a b : UInt64} (ha : own_at c (j + i) a) (hb : own_at 1 (1074 + i) b) (h : c.natAbs < 2 ^ 53) (hj : j ≤ 2045) : own_at c j (FP.ddiv a b) := by
  refine own_at_div ha hb (by decide) j ?_ h hj
  rw [Int.mul_one, show j + (1074 + i) = j + i + 1074 by omega]
theorem own_8d : own_at 1 (1074 + 3) (4620693217682128896 : UInt64) := ⟨by rw [Core.fin_bits]; decide, by decide +kernel⟩
theorem own_2d : own_at 1 (1074 + 1) (4611686018427387904 : UInt64) := ⟨by rw [Core.fin_bits]; decide, by decide +kernel⟩
end OwnFloat9
section OwnFloat10
open Jvm.FP Jvm.FP.Core
/-- a lies from 0 to X -/
def own_bd (X : Int) (a : UInt64) : Prop := Core.DFin a ∧ 0 ≤ own_zv a ∧ own_zv a ≤ X * own_U
theorem own_bd_of {N D X : Int} {r : UInt64} (h : own_rnd N D r) (hX : 0 ≤ X) (hX2 : X.natAbs < 2 ^ 53) (hD : 0 ≤ D) (h0 : 0 ≤ N) (h1 : N ≤ X * own_U * D) : own_bd X r := by
  obtain ⟨V, f, z⟩ := own_rep_is X hX2
  have a := h.2.1 0 own_is_0.1.ne_nan (by rw [own_is_0.2, Int.zero_mul, Int.zero_mul]; exact h0)
  have b := h.2.2 V f.ne_nan (by rw [z]; exact h1)
  rw [own_is_0.2, Int.zero_mul] at a
  have p : 0 ≤ X * own_U := Int.mul_nonneg hX (Int.le_of_lt own_U_pos)
  refine ⟨own_fin_of h.1 f (by rw [z] at b ⊢; omega), a, by rw [z] at b; exact b⟩
theorem own_bd_mul {X Y : Int} {a b : UInt64} (ha : own_bd X a) (hb : own_bd Y b) (hX : 0 ≤ X) (hY : 0 ≤ Y) (h : (X * Y).natAbs < 2 ^ 53) : own_bd (X * Y) (FP.dmul a b) := by
  have hU := own_U_pos
  refine own_bd_of (own_dmul_rnd ha.1 hb.1) (Int.mul_nonneg hX hY) h (Int.le_of_lt hU) (Int.mul_nonneg ha.2.1 hb.2.1) ?_
  have e : X * Y * own_U * own_U = (X * own_U) * (Y * own_U) := by simp only [Int.mul_assoc, Int.mul_comm, Int.mul_left_comm]
  rw [e]
  exact Int.mul_le_mul ha.2.2 hb.2.2 hb.2.1 (Int.mul_nonneg hX (Int.le_of_lt hU))
theorem own_bd_add {X Y : Int} {a b : UInt64} (ha : own_bd X a) (hb : own_bd Y b) (hX : 0 ≤ X) (hY : 0 ≤ Y) (h : (X + Y).natAbs < 2 ^ 53) : own_bd (X + Y) (FP.dadd a b) := by
  have h1 := ha.2.1; have h2 := hb.2.1; have h3 := ha.2.2; have h4 := hb.2.2
  refine own_bd_of (own_dadd_rnd ha.1 hb.1) (by omega) h (by decide) (by omega) ?_
  rw [Int.mul_one, Int.add_mul]; omega
theorem own_bd_div {X m : Int} {a b : UInt64} (ha : own_bd X a) (hb : Core.DFin b) (hp : 0 < own_zv b) (hm : own_U ≤ m * own_zv b) (hX : 0 ≤ X) (h0 : 0 ≤ m) (h : (X * m).natAbs < 2 ^ 53) : own_bd (X * m) (FP.ddiv a b) := by
  have hU := own_U_pos
  have hr := own_ddiv_rnd ha.1 hb (by omega)
  rw [if_pos hp, Int.natAbs_of_nonneg (Int.le_of_lt hp)] at hr
  refine own_bd_of hr (Int.mul_nonneg hX h0) h (Int.le_of_lt hp) (Int.mul_nonneg ha.2.1 (Int.le_of_lt hU)) ?_
  have e : X * m * own_U * own_zv b = (X * own_U) * (m * own_zv b) := by simp only [Int.mul_assoc, Int.mul_comm, Int.mul_left_comm]
  rw [e]
  exact Int.mul_le_mul ha.2.2 hm (Int.le_of_lt hU) (Int.mul_nonneg hX (Int.le_of_lt hU))
theorem own_bd_is {i : Int} {a : UInt64} (h : own_is i a) (h0 : 0 ≤ i) {X : Int} (hX : i ≤ X) : own_bd X a := ⟨h.1, by rw [h.2]; exact Int.mul_nonneg h0 (Int.le_of_lt own_U_pos), by rw [h.2]; exact Int.mul_le_mul_of_nonneg_right hX (Int.le_of_lt own_U_pos)⟩
end OwnFloat10

theorem own_pn0 : plainName "com/example/wideberth/wideberth/maximin/TriangleContainsPinLaw" = true := by first | (simp [plainName, overriddenIn]; done) | decide +kernel
theorem own_d1_0 : decode method_2_code 0 = .ok (.iload_n 0, 1) := by decide +kernel
theorem own_d1_1 : decode method_2_code 1 = .ok (.bipush 8, 2) := by decide +kernel
theorem own_d1_3 : decode method_2_code 3 = .ok (.ishl, 1) := by decide +kernel
theorem own_d1_4 : decode method_2_code 4 = .ok (.bipush 8, 2) := by decide +kernel
theorem own_d1_6 : decode method_2_code 6 = .ok (.ishr, 1) := by decide +kernel
theorem own_d1_7 : decode method_2_code 7 = .ok (.ireturn, 1) := by decide +kernel
def own_r1_0 (p1_0 : Int32) : Int32 := ((p1_0 <<< ((8 : Int32) &&& 31)) >>> ((8 : Int32) &&& 31))
theorem own_ef1 (m : MethodId) (p1_0 : Int32) : entryFrame m #[(.int p1_0)] 1 = mkF m 0 #[.val (.int p1_0)] [] := by first | (simp [entryFrame, mkF, argsToLocals, Value.category]; done) | rfl
def own_Q1 (Z : State) (p1_0 : Int32) (h0 : Heap) (n0 : Nat) (v : Option Value) (h : Heap) (L : List Loc) : Prop := v = some (.int (own_r1_0 p1_0)) ∧ Fr n0 L ∧ h = h0
set_option maxRecDepth 65536 in
set_option maxHeartbeats 40000000 in
theorem own_rm1 (l : Launch) (Z : State) (a0 : Array Value) (hw : ∀ d ∈ tables_1, d.before a0 Z = true) (ws : List Jvm.Cond) (p1_0 : Int32) (h0 : Heap) (n0 : Nat) (Z0 : n0 ≤ h0.size) :
    MetFree l (⟨"com/example/wideberth/wideberth/maximin/TriangleContainsPinLaw", "c24", "(I)I"⟩ : MethodName) (head1 (Jvm.Cond.code (⟨"com/example/wideberth/wideberth/maximin/TriangleContainsPinLaw", "c24", "(I)I"⟩ : MethodName) method_2_code 1 (some .int) :: ws) ({ frames := 0, cells := 0, slots := 0, locals := 0 } : Room)) (fun a U => a = #[(.int p1_0)] ∧ Z.Warmed39 U.vm ∧ U.heap = h0) (fun _ _ _ _ _ => True) (fun _ U o U' => ∃ v L, o = .returned v ∧ own_Q1 Z p1_0 h0 n0 v U'.heap L ∧ FrameEnd U o U' L ({ frames := 0, cells := 0, slots := 0, locals := 0 } : Room).cells ({ frames := 0, cells := 0, slots := 0, locals := 0 } : Room).slots) := by
  refine MetFree.of_bodySF (plainFor_of_name own_pn0) hisR ?_
  intro p e s m args below meth c s₁ Bd hml0 hP hK
  obtain ⟨rfl, hZ, hh⟩ := hP
  have hx := Bd.exec
  have hby := Bd.bytes
  have hml : c.maxLocals = 1 := hml0
  have hown : s.vm.findClass "com/example/wideberth/wideberth/maximin/TriangleContainsPinLaw" = some m.cls := findClass_of_methodNamed Bd.named
  have hnm := (name_of_methodNamed Bd.named Bd.method).1
  have X0 : Stand p l e ({ frames := 0, cells := 0, slots := 0, locals := 0 } : Room) s m #[(.int p1_0)] below meth c s₁ [] 0 0 := Stand.of_body Bd
  have e0 : s₁.heap = h0 := by rw [← hh, Bd.state]; rfl
  have N0 := Fr.nil n0
  have Zr : h0.size ≤ h0.size := Nat.le_refl _
  have pre0 : ∀ t, Steps p.tables e below (s₁.setTop (mkF m 0 #[.val (.int p1_0)] [])) t → Steps p.tables e below (s₁.setTop (entryFrame m #[(.int p1_0)] 1)) t := fun t k => castTop (own_ef1 m p1_0) k
  obtain ⟨fs, hr, hrun, hended, hW, hsame⟩ := X0.leave (v := some (.int ((p1_0 <<< ((8 : Int32) &&& 31)) >>> ((8 : Int32) &&& 31)))) (fun h => by rw [Bd.returns] at h; cases h)
  refine ⟨_, _, pre0 _ (?_), hrun, hended, _, _, rfl, ?_, ⟨_, rfl⟩, hW, hsame.mono (by decide) (by decide)⟩
  · show Steps p.tables e below (s₁.setTop (mkF m 0 #[.val (.int p1_0)] [])) _
    refine XS.iloadN X0.here hx rfl (hb hby own_d1_0) rfl ?_
    show Steps p.tables e below (s₁.setTop (mkF m 1 #[.val (.int p1_0)] [(.int p1_0)])) _
    refine XS.bipush X0.here hx rfl (hb hby own_d1_1) ?_
    show Steps p.tables e below (s₁.setTop (mkF m 3 #[.val (.int p1_0)] [(.int (8 : Int32)), (.int p1_0)])) _
    refine XT.ishl X0.here hx rfl (hb hby own_d1_3) rfl ?_
    show Steps p.tables e below (s₁.setTop (mkF m 4 #[.val (.int p1_0)] [(.int (p1_0 <<< ((8 : Int32) &&& 31)))])) _
    refine XS.bipush X0.here hx rfl (hb hby own_d1_4) ?_
    show Steps p.tables e below (s₁.setTop (mkF m 6 #[.val (.int p1_0)] [(.int (8 : Int32)), (.int (p1_0 <<< ((8 : Int32) &&& 31)))])) _
    refine XT.ishr X0.here hx rfl (hb hby own_d1_6) rfl ?_
    show Steps p.tables e below (s₁.setTop (mkF m 7 #[.val (.int p1_0)] [(.int ((p1_0 <<< ((8 : Int32) &&& 31)) >>> ((8 : Int32) &&& 31)))])) _
    exact retI X0 hx Bd.returns (hb hby own_d1_7) hr
  · show own_Q1 Z p1_0 h0 n0 _ s₁.heap _
    rw [e0]
    exact ⟨rfl, N0, rfl⟩
theorem own_d2_0 : decode method_3_code 0 = .ok (.lload 4, 2) := by decide +kernel
theorem own_d2_2 : decode method_3_code 2 = .ok (.lload_n 0, 1) := by decide +kernel
theorem own_d2_3 : decode method_3_code 3 = .ok (.lsub, 1) := by decide +kernel
theorem own_d2_4 : decode method_3_code 4 = .ok (.lload 10, 2) := by decide +kernel
theorem own_d2_6 : decode method_3_code 6 = .ok (.lload_n 2, 1) := by decide +kernel
theorem own_d2_7 : decode method_3_code 7 = .ok (.lsub, 1) := by decide +kernel
theorem own_d2_8 : decode method_3_code 8 = .ok (.lmul, 1) := by decide +kernel
theorem own_d2_9 : decode method_3_code 9 = .ok (.lload 6, 2) := by decide +kernel
theorem own_d2_11 : decode method_3_code 11 = .ok (.lload_n 2, 1) := by decide +kernel
theorem own_d2_12 : decode method_3_code 12 = .ok (.lsub, 1) := by decide +kernel
theorem own_d2_13 : decode method_3_code 13 = .ok (.lload 8, 2) := by decide +kernel
theorem own_d2_15 : decode method_3_code 15 = .ok (.lload_n 0, 1) := by decide +kernel
theorem own_d2_16 : decode method_3_code 16 = .ok (.lsub, 1) := by decide +kernel
theorem own_d2_17 : decode method_3_code 17 = .ok (.lmul, 1) := by decide +kernel
theorem own_d2_18 : decode method_3_code 18 = .ok (.lsub, 1) := by decide +kernel
theorem own_d2_19 : decode method_3_code 19 = .ok (.lreturn, 1) := by decide +kernel
def own_r2_0 (q2_0 : Int64) (q2_1 : Int64) (q2_2 : Int64) (q2_3 : Int64) (q2_4 : Int64) (q2_5 : Int64) : Int64 := (((q2_2 - q2_0) * (q2_5 - q2_1)) - ((q2_3 - q2_1) * (q2_4 - q2_0)))
theorem own_ef2 (m : MethodId) (q2_0 : Int64) (q2_1 : Int64) (q2_2 : Int64) (q2_3 : Int64) (q2_4 : Int64) (q2_5 : Int64) : entryFrame m #[(.long q2_0), (.long q2_1), (.long q2_2), (.long q2_3), (.long q2_4), (.long q2_5)] 12 = mkF m 0 #[.val (.long q2_0), .second, .val (.long q2_1), .second, .val (.long q2_2), .second, .val (.long q2_3), .second, .val (.long q2_4), .second, .val (.long q2_5), .second] [] := by first | (simp [entryFrame, mkF, argsToLocals, Value.category]; done) | rfl
def own_Q2 (Z : State) (q2_0 : Int64) (q2_1 : Int64) (q2_2 : Int64) (q2_3 : Int64) (q2_4 : Int64) (q2_5 : Int64) (h0 : Heap) (n0 : Nat) (v : Option Value) (h : Heap) (L : List Loc) : Prop := v = some (.long (own_r2_0 q2_0 q2_1 q2_2 q2_3 q2_4 q2_5)) ∧ Fr n0 L ∧ h = h0
set_option maxRecDepth 65536 in
set_option maxHeartbeats 40000000 in
theorem own_rm2 (l : Launch) (Z : State) (a0 : Array Value) (hw : ∀ d ∈ tables_1, d.before a0 Z = true) (ws : List Jvm.Cond) (q2_0 : Int64) (q2_1 : Int64) (q2_2 : Int64) (q2_3 : Int64) (q2_4 : Int64) (q2_5 : Int64) (h0 : Heap) (n0 : Nat) (Z0 : n0 ≤ h0.size) :
    MetFree l (⟨"com/example/wideberth/wideberth/maximin/TriangleContainsPinLaw", "cross", "(JJJJJJ)J"⟩ : MethodName) (head1 (Jvm.Cond.code (⟨"com/example/wideberth/wideberth/maximin/TriangleContainsPinLaw", "cross", "(JJJJJJ)J"⟩ : MethodName) method_3_code 12 (some .long) :: ws) ({ frames := 0, cells := 0, slots := 0, locals := 0 } : Room)) (fun a U => a = #[(.long q2_0), (.long q2_1), (.long q2_2), (.long q2_3), (.long q2_4), (.long q2_5)] ∧ Z.Warmed39 U.vm ∧ U.heap = h0) (fun _ _ _ _ _ => True) (fun _ U o U' => ∃ v L, o = .returned v ∧ own_Q2 Z q2_0 q2_1 q2_2 q2_3 q2_4 q2_5 h0 n0 v U'.heap L ∧ FrameEnd U o U' L ({ frames := 0, cells := 0, slots := 0, locals := 0 } : Room).cells ({ frames := 0, cells := 0, slots := 0, locals := 0 } : Room).slots) := by
  refine MetFree.of_bodySF (plainFor_of_name own_pn0) hisR ?_
  intro p e s m args below meth c s₁ Bd hml0 hP hK
  obtain ⟨rfl, hZ, hh⟩ := hP
  have hx := Bd.exec
  have hby := Bd.bytes
  have hml : c.maxLocals = 12 := hml0
  have hown : s.vm.findClass "com/example/wideberth/wideberth/maximin/TriangleContainsPinLaw" = some m.cls := findClass_of_methodNamed Bd.named
  have hnm := (name_of_methodNamed Bd.named Bd.method).1
  have X0 : Stand p l e ({ frames := 0, cells := 0, slots := 0, locals := 0 } : Room) s m #[(.long q2_0), (.long q2_1), (.long q2_2), (.long q2_3), (.long q2_4), (.long q2_5)] below meth c s₁ [] 0 0 := Stand.of_body Bd
  have e0 : s₁.heap = h0 := by rw [← hh, Bd.state]; rfl
  have N0 := Fr.nil n0
  have Zr : h0.size ≤ h0.size := Nat.le_refl _
  have pre0 : ∀ t, Steps p.tables e below (s₁.setTop (mkF m 0 #[.val (.long q2_0), .second, .val (.long q2_1), .second, .val (.long q2_2), .second, .val (.long q2_3), .second, .val (.long q2_4), .second, .val (.long q2_5), .second] [])) t → Steps p.tables e below (s₁.setTop (entryFrame m #[(.long q2_0), (.long q2_1), (.long q2_2), (.long q2_3), (.long q2_4), (.long q2_5)] 12)) t := fun t k => castTop (own_ef2 m q2_0 q2_1 q2_2 q2_3 q2_4 q2_5) k
  obtain ⟨fs, hr, hrun, hended, hW, hsame⟩ := X0.leave (v := some (.long (((q2_2 - q2_0) * (q2_5 - q2_1)) - ((q2_3 - q2_1) * (q2_4 - q2_0))))) (fun h => by rw [Bd.returns] at h; cases h)
  refine ⟨_, _, pre0 _ (?_), hrun, hended, _, _, rfl, ?_, ⟨_, rfl⟩, hW, hsame.mono (by decide) (by decide)⟩
  · show Steps p.tables e below (s₁.setTop (mkF m 0 #[.val (.long q2_0), .second, .val (.long q2_1), .second, .val (.long q2_2), .second, .val (.long q2_3), .second, .val (.long q2_4), .second, .val (.long q2_5), .second] [])) _
    refine XT.lload X0.here hx rfl (hb hby own_d2_0) rfl ?_
    show Steps p.tables e below (s₁.setTop (mkF m 2 #[.val (.long q2_0), .second, .val (.long q2_1), .second, .val (.long q2_2), .second, .val (.long q2_3), .second, .val (.long q2_4), .second, .val (.long q2_5), .second] [(.long q2_2)])) _
    refine XT.lloadN X0.here hx rfl (hb hby own_d2_2) rfl ?_
    show Steps p.tables e below (s₁.setTop (mkF m 3 #[.val (.long q2_0), .second, .val (.long q2_1), .second, .val (.long q2_2), .second, .val (.long q2_3), .second, .val (.long q2_4), .second, .val (.long q2_5), .second] [(.long q2_0), (.long q2_2)])) _
    refine XT.lsub X0.here hx rfl (hb hby own_d2_3) rfl ?_
    show Steps p.tables e below (s₁.setTop (mkF m 4 #[.val (.long q2_0), .second, .val (.long q2_1), .second, .val (.long q2_2), .second, .val (.long q2_3), .second, .val (.long q2_4), .second, .val (.long q2_5), .second] [(.long (q2_2 - q2_0))])) _
    refine XT.lload X0.here hx rfl (hb hby own_d2_4) rfl ?_
    show Steps p.tables e below (s₁.setTop (mkF m 6 #[.val (.long q2_0), .second, .val (.long q2_1), .second, .val (.long q2_2), .second, .val (.long q2_3), .second, .val (.long q2_4), .second, .val (.long q2_5), .second] [(.long q2_5), (.long (q2_2 - q2_0))])) _
    refine XT.lloadN X0.here hx rfl (hb hby own_d2_6) rfl ?_
    show Steps p.tables e below (s₁.setTop (mkF m 7 #[.val (.long q2_0), .second, .val (.long q2_1), .second, .val (.long q2_2), .second, .val (.long q2_3), .second, .val (.long q2_4), .second, .val (.long q2_5), .second] [(.long q2_1), (.long q2_5), (.long (q2_2 - q2_0))])) _
    refine XT.lsub X0.here hx rfl (hb hby own_d2_7) rfl ?_
    show Steps p.tables e below (s₁.setTop (mkF m 8 #[.val (.long q2_0), .second, .val (.long q2_1), .second, .val (.long q2_2), .second, .val (.long q2_3), .second, .val (.long q2_4), .second, .val (.long q2_5), .second] [(.long (q2_5 - q2_1)), (.long (q2_2 - q2_0))])) _
    refine XT.lmul X0.here hx rfl (hb hby own_d2_8) rfl ?_
    show Steps p.tables e below (s₁.setTop (mkF m 9 #[.val (.long q2_0), .second, .val (.long q2_1), .second, .val (.long q2_2), .second, .val (.long q2_3), .second, .val (.long q2_4), .second, .val (.long q2_5), .second] [(.long ((q2_2 - q2_0) * (q2_5 - q2_1)))])) _
    refine XT.lload X0.here hx rfl (hb hby own_d2_9) rfl ?_
    show Steps p.tables e below (s₁.setTop (mkF m 11 #[.val (.long q2_0), .second, .val (.long q2_1), .second, .val (.long q2_2), .second, .val (.long q2_3), .second, .val (.long q2_4), .second, .val (.long q2_5), .second] [(.long q2_3), (.long ((q2_2 - q2_0) * (q2_5 - q2_1)))])) _
    refine XT.lloadN X0.here hx rfl (hb hby own_d2_11) rfl ?_
    show Steps p.tables e below (s₁.setTop (mkF m 12 #[.val (.long q2_0), .second, .val (.long q2_1), .second, .val (.long q2_2), .second, .val (.long q2_3), .second, .val (.long q2_4), .second, .val (.long q2_5), .second] [(.long q2_1), (.long q2_3), (.long ((q2_2 - q2_0) * (q2_5 - q2_1)))])) _
    refine XT.lsub X0.here hx rfl (hb hby own_d2_12) rfl ?_
    show Steps p.tables e below (s₁.setTop (mkF m 13 #[.val (.long q2_0), .second, .val (.long q2_1), .second, .val (.long q2_2), .second, .val (.long q2_3), .second, .val (.long q2_4), .second, .val (.long q2_5), .second] [(.long (q2_3 - q2_1)), (.long ((q2_2 - q2_0) * (q2_5 - q2_1)))])) _
    refine XT.lload X0.here hx rfl (hb hby own_d2_13) rfl ?_
    show Steps p.tables e below (s₁.setTop (mkF m 15 #[.val (.long q2_0), .second, .val (.long q2_1), .second, .val (.long q2_2), .second, .val (.long q2_3), .second, .val (.long q2_4), .second, .val (.long q2_5), .second] [(.long q2_4), (.long (q2_3 - q2_1)), (.long ((q2_2 - q2_0) * (q2_5 - q2_1)))])) _
    refine XT.lloadN X0.here hx rfl (hb hby own_d2_15) rfl ?_
    show Steps p.tables e below (s₁.setTop (mkF m 16 #[.val (.long q2_0), .second, .val (.long q2_1), .second, .val (.long q2_2), .second, .val (.long q2_3), .second, .val (.long q2_4), .second, .val (.long q2_5), .second] [(.long q2_0), (.long q2_4), (.long (q2_3 - q2_1)), (.long ((q2_2 - q2_0) * (q2_5 - q2_1)))])) _
    refine XT.lsub X0.here hx rfl (hb hby own_d2_16) rfl ?_
    show Steps p.tables e below (s₁.setTop (mkF m 17 #[.val (.long q2_0), .second, .val (.long q2_1), .second, .val (.long q2_2), .second, .val (.long q2_3), .second, .val (.long q2_4), .second, .val (.long q2_5), .second] [(.long (q2_4 - q2_0)), (.long (q2_3 - q2_1)), (.long ((q2_2 - q2_0) * (q2_5 - q2_1)))])) _
    refine XT.lmul X0.here hx rfl (hb hby own_d2_17) rfl ?_
    show Steps p.tables e below (s₁.setTop (mkF m 18 #[.val (.long q2_0), .second, .val (.long q2_1), .second, .val (.long q2_2), .second, .val (.long q2_3), .second, .val (.long q2_4), .second, .val (.long q2_5), .second] [(.long ((q2_3 - q2_1) * (q2_4 - q2_0))), (.long ((q2_2 - q2_0) * (q2_5 - q2_1)))])) _
    refine XT.lsub X0.here hx rfl (hb hby own_d2_18) rfl ?_
    show Steps p.tables e below (s₁.setTop (mkF m 19 #[.val (.long q2_0), .second, .val (.long q2_1), .second, .val (.long q2_2), .second, .val (.long q2_3), .second, .val (.long q2_4), .second, .val (.long q2_5), .second] [(.long (((q2_2 - q2_0) * (q2_5 - q2_1)) - ((q2_3 - q2_1) * (q2_4 - q2_0))))])) _
    jvm_step X0.here [X0.here.top, hx, (hb hby own_d2_19), X0.method', Bd.returns, narrow]
    first | (intro acts; rw [hr _ acts rfl rfl rfl]) | rw [hr _ _ rfl rfl rfl]
    exact Steps.refl _
  · show own_Q2 Z q2_0 q2_1 q2_2 q2_3 q2_4 q2_5 h0 n0 _ s₁.heap _
    rw [e0]
    exact ⟨rfl, N0, rfl⟩
theorem own_d3_0 : decode jdk_29_method_61_code 0 = .ok (.lload_n 0, 1) := by decide +kernel
theorem own_d3_1 : decode jdk_29_method_61_code 1 = .ok (.lconst 0, 1) := by decide +kernel
theorem own_d3_2 : decode jdk_29_method_61_code 2 = .ok (.lcmp, 1) := by decide +kernel
theorem own_d3_3 : decode jdk_29_method_61_code 3 = .ok (.ifCond .ge 8, 3) := by decide +kernel
theorem own_d3_6 : decode jdk_29_method_61_code 6 = .ok (.lload_n 0, 1) := by decide +kernel
theorem own_d3_7 : decode jdk_29_method_61_code 7 = .ok (.lneg, 1) := by decide +kernel
theorem own_d3_8 : decode jdk_29_method_61_code 8 = .ok (.goto 4, 3) := by decide +kernel
theorem own_d3_11 : decode jdk_29_method_61_code 11 = .ok (.lload_n 0, 1) := by decide +kernel
theorem own_d3_12 : decode jdk_29_method_61_code 12 = .ok (.lreturn, 1) := by decide +kernel
def own_j3_0 (q3_0 : Int64) : Int64 := if q3_0 < (0 : Int64) then (-q3_0) else q3_0
theorem own_ef3 (m : MethodId) (q3_0 : Int64) : entryFrame m #[(.long q3_0)] 2 = mkF m 0 #[.val (.long q3_0), .second] [] := by first | (simp [entryFrame, mkF, argsToLocals, Value.category]; done) | rfl
def own_Q3 (Z : State) (q3_0 : Int64) (h0 : Heap) (n0 : Nat) (v : Option Value) (h : Heap) (L : List Loc) : Prop := v = some (.long (own_j3_0 q3_0)) ∧ Fr n0 L ∧ h = h0
set_option maxRecDepth 65536 in
set_option maxHeartbeats 40000000 in
theorem own_rm3 (l : Launch) (Z : State) (a0 : Array Value) (hw : ∀ d ∈ tables_1, d.before a0 Z = true) (ws : List Jvm.Cond) (q3_0 : Int64) (h0 : Heap) (n0 : Nat) (Z0 : n0 ≤ h0.size) :
    MetFree l (⟨"java/lang/Math", "abs", "(J)J"⟩ : MethodName) (head1 (Jvm.Cond.code (⟨"java/lang/Math", "abs", "(J)J"⟩ : MethodName) jdk_29_method_61_code 2 (some .long) :: ws) ({ frames := 0, cells := 0, slots := 0, locals := 0 } : Room)) (fun a U => a = #[(.long q3_0)] ∧ Z.Warmed39 U.vm ∧ U.heap = h0) (fun _ _ _ _ _ => True) (fun _ U o U' => ∃ v L, o = .returned v ∧ own_Q3 Z q3_0 h0 n0 v U'.heap L ∧ FrameEnd U o U' L ({ frames := 0, cells := 0, slots := 0, locals := 0 } : Room).cells ({ frames := 0, cells := 0, slots := 0, locals := 0 } : Room).slots) := by
  refine MetFree.of_bodySF (Jvm.Free.JP.mathPlain rfl (by decide +kernel)) hisR ?_
  intro p e s m args below meth c s₁ Bd hml0 hP hK
  obtain ⟨rfl, hZ, hh⟩ := hP
  have hx := Bd.exec
  have hby := Bd.bytes
  have hml : c.maxLocals = 2 := hml0
  have hown : s.vm.findClass "java/lang/Math" = some m.cls := findClass_of_methodNamed Bd.named
  have hnm := (name_of_methodNamed Bd.named Bd.method).1
  have X0 : Stand p l e ({ frames := 0, cells := 0, slots := 0, locals := 0 } : Room) s m #[(.long q3_0)] below meth c s₁ [] 0 0 := Stand.of_body Bd
  have e0 : s₁.heap = h0 := by rw [← hh, Bd.state]; rfl
  have N0 := Fr.nil n0
  have Zr : h0.size ≤ h0.size := Nat.le_refl _
  have pre0 : ∀ t, Steps p.tables e below (s₁.setTop (mkF m 0 #[.val (.long q3_0), .second] [])) t → Steps p.tables e below (s₁.setTop (entryFrame m #[(.long q3_0)] 2)) t := fun t k => castTop (own_ef3 m q3_0) k
  obtain ⟨Tj3_1, lj3_1, Xj3_1, Nj3_1, ej3_1, stj3_1⟩ : ∃ (T' : State) (l' : List Loc), Stand p l e ({ frames := 0, cells := 0, slots := 0, locals := 0 } : Room) s m #[(.long q3_0)] below meth c T' l' 0 0 ∧ Fr n0 l' ∧ T'.heap = h0 ∧ ∀ target, Steps p.tables e below (T'.setTop (mkF m 12 #[.val (.long q3_0), .second] [(.long (own_j3_0 q3_0))])) target → Steps p.tables e below (s₁.setTop (mkF m 3 #[.val (.long q3_0), .second] [(.int (XT.cmpL q3_0 (0 : Int64)))])) target := by
    by_cases hj3_1 : q3_0 < (0 : Int64)
    · refine ⟨_, _, X0, N0, e0, fun target kt => ?_⟩
      rw [(show (own_j3_0 q3_0) = (-q3_0) from if_pos hj3_1)] at kt
      show Steps p.tables e below (s₁.setTop (mkF m 3 #[.val (.long q3_0), .second] [(.int (XT.cmpL q3_0 (0 : Int64)))])) _
      refine XS.ifNo X0.here hx rfl (hb hby own_d3_3) rfl (XT.ll_ge_f hj3_1) ?_
      show Steps p.tables e below (s₁.setTop (mkF m 6 #[.val (.long q3_0), .second] [])) _
      refine XT.lloadN X0.here hx rfl (hb hby own_d3_6) rfl ?_
      show Steps p.tables e below (s₁.setTop (mkF m 7 #[.val (.long q3_0), .second] [(.long q3_0)])) _
      refine XT.lneg X0.here hx rfl (hb hby own_d3_7) rfl ?_
      show Steps p.tables e below (s₁.setTop (mkF m 8 #[.val (.long q3_0), .second] [(.long (-q3_0))])) _
      refine XS.goto X0.here hx rfl (pc0 := 8) (pc' := 12) rfl (hb hby own_d3_8) (by decide) (by decide) ?_
      exact kt
    · refine ⟨_, _, X0, N0, e0, fun target kt => ?_⟩
      rw [(show (own_j3_0 q3_0) = q3_0 from if_neg hj3_1)] at kt
      show Steps p.tables e below (s₁.setTop (mkF m 3 #[.val (.long q3_0), .second] [(.int (XT.cmpL q3_0 (0 : Int64)))])) _
      refine XS.ifYes X0.here hx rfl (pc0 := 3) (pc' := 11) rfl (hb hby own_d3_3) rfl (XT.ll_ge_t hj3_1) (by decide) (by decide) ?_
      show Steps p.tables e below (s₁.setTop (mkF m 11 #[.val (.long q3_0), .second] [])) _
      refine XT.lloadN X0.here hx rfl (hb hby own_d3_11) rfl ?_
      exact kt
  obtain ⟨fs, hr, hrun, hended, hW, hsame⟩ := Xj3_1.leave (v := some (.long (own_j3_0 q3_0))) (fun h => by rw [Bd.returns] at h; cases h)
  refine ⟨_, _, pre0 _ (?_), hrun, hended, _, _, rfl, ?_, ⟨_, rfl⟩, hW, hsame.mono (by decide) (by decide)⟩
  · show Steps p.tables e below (s₁.setTop (mkF m 0 #[.val (.long q3_0), .second] [])) _
    refine XT.lloadN X0.here hx rfl (hb hby own_d3_0) rfl ?_
    show Steps p.tables e below (s₁.setTop (mkF m 1 #[.val (.long q3_0), .second] [(.long q3_0)])) _
    refine XT.lconst X0.here hx rfl (hb hby own_d3_1) ?_
    show Steps p.tables e below (s₁.setTop (mkF m 2 #[.val (.long q3_0), .second] [(.long (0 : Int64)), (.long q3_0)])) _
    refine XT.lcmp X0.here hx rfl (hb hby own_d3_2) rfl ?_
    show Steps p.tables e below (s₁.setTop (mkF m 3 #[.val (.long q3_0), .second] [(.int (XT.cmpL q3_0 (0 : Int64)))])) _
    refine stj3_1 _ ?_
    show Steps p.tables e below (Tj3_1.setTop (mkF m 12 #[.val (.long q3_0), .second] [(.long (own_j3_0 q3_0))])) _
    jvm_step Xj3_1.here [Xj3_1.here.top, hx, (hb hby own_d3_12), Xj3_1.method', Bd.returns, narrow]
    first | (intro acts; rw [hr _ acts rfl rfl rfl]) | rw [hr _ _ rfl rfl rfl]
    exact Steps.refl _
  · show own_Q3 Z q3_0 h0 n0 _ Tj3_1.heap _
    rw [ej3_1]
    exact ⟨rfl, Nj3_1, rfl⟩
theorem own_pn1 : plainName "com/example/wideberth/wideberth/maximin/Triangle" = true := by first | (simp [plainName, overriddenIn]; done) | decide +kernel
theorem own_d4_0 : decode prog_23_method_1_code 0 = .ok (.aload_n 0, 1) := by decide +kernel
theorem own_d4_1 : decode prog_23_method_1_code 1 = .ok (.invokespecial 1, 3) := by decide +kernel
theorem own_d4_4 : decode prog_23_method_1_code 4 = .ok (.aload_n 0, 1) := by decide +kernel
theorem own_d4_5 : decode prog_23_method_1_code 5 = .ok (.iconst 3, 1) := by decide +kernel
theorem own_d4_6 : decode prog_23_method_1_code 6 = .ok (.newarray .double, 2) := by decide +kernel
theorem own_d4_8 : decode prog_23_method_1_code 8 = .ok (.dup, 1) := by decide +kernel
theorem own_d4_9 : decode prog_23_method_1_code 9 = .ok (.iconst 0, 1) := by decide +kernel
theorem own_d4_10 : decode prog_23_method_1_code 10 = .ok (.dload_n 1, 1) := by decide +kernel
theorem own_d4_11 : decode prog_23_method_1_code 11 = .ok (.dastore, 1) := by decide +kernel
theorem own_d4_12 : decode prog_23_method_1_code 12 = .ok (.dup, 1) := by decide +kernel
theorem own_d4_13 : decode prog_23_method_1_code 13 = .ok (.iconst 1, 1) := by decide +kernel
theorem own_d4_14 : decode prog_23_method_1_code 14 = .ok (.dload 5, 2) := by decide +kernel
theorem own_d4_16 : decode prog_23_method_1_code 16 = .ok (.dastore, 1) := by decide +kernel
theorem own_d4_17 : decode prog_23_method_1_code 17 = .ok (.dup, 1) := by decide +kernel
theorem own_d4_18 : decode prog_23_method_1_code 18 = .ok (.iconst 2, 1) := by decide +kernel
theorem own_d4_19 : decode prog_23_method_1_code 19 = .ok (.dload 9, 2) := by decide +kernel
theorem own_d4_21 : decode prog_23_method_1_code 21 = .ok (.dastore, 1) := by decide +kernel
theorem own_d4_22 : decode prog_23_method_1_code 22 = .ok (.putfield 7, 3) := by decide +kernel
theorem own_d4_25 : decode prog_23_method_1_code 25 = .ok (.aload_n 0, 1) := by decide +kernel
theorem own_d4_26 : decode prog_23_method_1_code 26 = .ok (.iconst 3, 1) := by decide +kernel
theorem own_d4_27 : decode prog_23_method_1_code 27 = .ok (.newarray .double, 2) := by decide +kernel
theorem own_d4_29 : decode prog_23_method_1_code 29 = .ok (.dup, 1) := by decide +kernel
theorem own_d4_30 : decode prog_23_method_1_code 30 = .ok (.iconst 0, 1) := by decide +kernel
theorem own_d4_31 : decode prog_23_method_1_code 31 = .ok (.dload_n 3, 1) := by decide +kernel
theorem own_d4_32 : decode prog_23_method_1_code 32 = .ok (.dastore, 1) := by decide +kernel
theorem own_d4_33 : decode prog_23_method_1_code 33 = .ok (.dup, 1) := by decide +kernel
theorem own_d4_34 : decode prog_23_method_1_code 34 = .ok (.iconst 1, 1) := by decide +kernel
theorem own_d4_35 : decode prog_23_method_1_code 35 = .ok (.dload 7, 2) := by decide +kernel
theorem own_d4_37 : decode prog_23_method_1_code 37 = .ok (.dastore, 1) := by decide +kernel
theorem own_d4_38 : decode prog_23_method_1_code 38 = .ok (.dup, 1) := by decide +kernel
theorem own_d4_39 : decode prog_23_method_1_code 39 = .ok (.iconst 2, 1) := by decide +kernel
theorem own_d4_40 : decode prog_23_method_1_code 40 = .ok (.dload 11, 2) := by decide +kernel
theorem own_d4_42 : decode prog_23_method_1_code 42 = .ok (.dastore, 1) := by decide +kernel
theorem own_d4_43 : decode prog_23_method_1_code 43 = .ok (.putfield 13, 3) := by decide +kernel
theorem own_d4_46 : decode prog_23_method_1_code 46 = .ok (.return_, 1) := by decide +kernel
theorem own_ef4 (m : MethodId) (a4_0 : Addr) (d4_1 : UInt64) (d4_2 : UInt64) (d4_3 : UInt64) (d4_4 : UInt64) (d4_5 : UInt64) (d4_6 : UInt64) : entryFrame m #[(.ref a4_0), (.double d4_1), (.double d4_2), (.double d4_3), (.double d4_4), (.double d4_5), (.double d4_6)] 13 = mkF m 0 #[.val (.ref a4_0), .val (.double d4_1), .second, .val (.double d4_2), .second, .val (.double d4_3), .second, .val (.double d4_4), .second, .val (.double d4_5), .second, .val (.double d4_6), .second] [] := by first | (simp [entryFrame, mkF, argsToLocals, Value.category]; done) | rfl
def own_Q4 (Z : State) (a4_0 : Addr) (d4_1 : UInt64) (d4_2 : UInt64) (d4_3 : UInt64) (d4_4 : UInt64) (d4_5 : UInt64) (d4_6 : UInt64) (w_xs_a4_0 : Value) (w_ys_a4_0 : Value) (h0 : Heap) (n0 : Nat) (v : Option Value) (h : Heap) (L : List Loc) : Prop := ∃ (bn4_2 : Addr) (kn4_2 : ClassId) (bn4_15 : Addr) (kn4_15 : ClassId), v = none ∧ Fr n0 L ∧ Keep h0 h [a4_0] ∧ h0.size ≤ bn4_2 ∧ h0.size ≤ bn4_15 ∧ bn4_2 ≠ bn4_15 ∧ Exa Z h a4_0 "com/example/wideberth/wideberth/maximin/Triangle" ∧ Fld Z h a4_0 "com/example/wideberth/wideberth/maximin/Triangle" "xs" "[D" (.ref bn4_2) ∧ Fld Z h a4_0 "com/example/wideberth/wideberth/maximin/Triangle" "ys" "[D" (.ref bn4_15) ∧ Arv Z h bn4_2 kn4_2 .double (3 : Int32) [(.double d4_1), (.double d4_3), (.double d4_5)] (.double (0 : UInt64)) ∧ Arv Z h bn4_15 kn4_15 .double (3 : Int32) [(.double d4_2), (.double d4_4), (.double d4_6)] (.double (0 : UInt64))
set_option maxRecDepth 65536 in
set_option maxHeartbeats 40000000 in
theorem own_rm4 (l : Launch) (Z : State) (a0 : Array Value) (hw : ∀ d ∈ tables_1, d.before a0 Z = true) (ws : List Jvm.Cond) (a4_0 : Addr) (d4_1 : UInt64) (d4_2 : UInt64) (d4_3 : UInt64) (d4_4 : UInt64) (d4_5 : UInt64) (d4_6 : UInt64) (w_xs_a4_0 : Value) (w_ys_a4_0 : Value) (h0 : Heap) (n0 : Nat) (Z0 : n0 ≤ h0.size) (E_a4_0 : Exa Z h0 a4_0 "com/example/wideberth/wideberth/maximin/Triangle") (F_xs_a4_0 : Fld Z h0 a4_0 "com/example/wideberth/wideberth/maximin/Triangle" "xs" "[D" w_xs_a4_0) (g_a4_0 : n0 ≤ a4_0) (F_ys_a4_0 : Fld Z h0 a4_0 "com/example/wideberth/wideberth/maximin/Triangle" "ys" "[D" w_ys_a4_0) :
    MetFree l (⟨"com/example/wideberth/wideberth/maximin/Triangle", "<init>", "(DDDDDD)V"⟩ : MethodName) (head1 (Jvm.Cond.code (⟨"com/example/wideberth/wideberth/maximin/Triangle", "<init>", "(DDDDDD)V"⟩ : MethodName) prog_23_method_1_code 13 none :: ws) ({ frames := 1, cells := 2, slots := 6, locals := 12 } : Room)) (fun a U => a = #[(.ref a4_0), (.double d4_1), (.double d4_2), (.double d4_3), (.double d4_4), (.double d4_5), (.double d4_6)] ∧ Z.Warmed39 U.vm ∧ U.heap = h0) (fun _ _ _ _ _ => True) (fun _ U o U' => ∃ v L, o = .returned v ∧ own_Q4 Z a4_0 d4_1 d4_2 d4_3 d4_4 d4_5 d4_6 w_xs_a4_0 w_ys_a4_0 h0 n0 v U'.heap L ∧ FrameEnd U o U' L ({ frames := 1, cells := 2, slots := 6, locals := 12 } : Room).cells ({ frames := 1, cells := 2, slots := 6, locals := 12 } : Room).slots) := by
  refine MetFree.of_bodySF (plainFor_of_name own_pn1) hisR ?_
  intro p e s m args below meth c s₁ Bd hml0 hP hK
  obtain ⟨rfl, hZ, hh⟩ := hP
  have hx := Bd.exec
  have hby := Bd.bytes
  have hml : c.maxLocals = 13 := hml0
  have hown : s.vm.findClass "com/example/wideberth/wideberth/maximin/Triangle" = some m.cls := findClass_of_methodNamed Bd.named
  have hnm := (name_of_methodNamed Bd.named Bd.method).1
  have X0 : Stand p l e ({ frames := 1, cells := 2, slots := 6, locals := 12 } : Room) s m #[(.ref a4_0), (.double d4_1), (.double d4_2), (.double d4_3), (.double d4_4), (.double d4_5), (.double d4_6)] below meth c s₁ [] 0 0 := Stand.of_body Bd
  have e0 : s₁.heap = h0 := by rw [← hh, Bd.state]; rfl
  have N0 := Fr.nil n0
  have Zr : h0.size ≤ h0.size := Nat.le_refl _
  have pre0 : ∀ t, Steps p.tables e below (s₁.setTop (mkF m 0 #[.val (.ref a4_0), .val (.double d4_1), .second, .val (.double d4_2), .second, .val (.double d4_3), .second, .val (.double d4_4), .second, .val (.double d4_5), .second, .val (.double d4_6), .second] [])) t → Steps p.tables e below (s₁.setTop (entryFrame m #[(.ref a4_0), (.double d4_1), (.double d4_2), (.double d4_3), (.double d4_4), (.double d4_5), (.double d4_6)] 13)) t := fun t k => castTop (own_ef4 m a4_0 d4_1 d4_2 d4_3 d4_4 d4_5 d4_6) k
  obtain ⟨Tn4_1, Xn4_1, en4_1, stn4_1⟩ := initO X0 hx hZ hown (hw _ (List.mem_of_getElem? (i := 17) rfl)) (hw _ (List.mem_of_getElem? (i := 18) rfl)) (hw _ (List.mem_of_getElem? (i := 19) rfl)) e0 (g := (mkF m 1 #[.val (.ref a4_0), .val (.double d4_1), .second, .val (.double d4_2), .second, .val (.double d4_3), .second, .val (.double d4_4), .second, .val (.double d4_5), .second, .val (.double d4_6), .second] [(.ref a4_0)])) rfl (by rw [hml]; rfl) rfl (hb hby own_d4_1) (by decide) (W := 0) (by show 2 * 0 + _ ≤ _; exact Nat.le_of_eq rfl) (by decide)
  obtain ⟨Tn4_2, hn4_2, kn4_2, Xn4_2, en4_2, En4_2, An4_2, stn4_2⟩ := newP Xn4_1 hx hZ (hw _ (List.mem_of_getElem? (i := 20) rfl)) en4_1 (g := (mkF m 6 #[.val (.ref a4_0), .val (.double d4_1), .second, .val (.double d4_2), .second, .val (.double d4_3), .second, .val (.double d4_4), .second, .val (.double d4_5), .second, .val (.double d4_6), .second] [(.int (3 : Int32)), (.ref a4_0)])) rfl (hb hby own_d4_6) rfl (by decide) (cap := 3) (by decide) (by decide) (by decide) (by decide)
  obtain ⟨bn4_2, gn4_2⟩ : ∃ z, z = h0.size := ⟨_, rfl⟩
  rw [← gn4_2] at An4_2 stn4_2
  have g_bn4_2 : n0 ≤ bn4_2 := Nat.le_trans Z0 (Nat.le_of_eq gn4_2.symm)
  have sz_bn4_2 : h0.size ≤ bn4_2 := Nat.le_trans Zr (Nat.le_of_eq gn4_2.symm)
  have sz4_3 : h0.size ≤ hn4_2.size := Nat.le_trans Zr En4_2.1
  have V_bn4_2 : Arv Z hn4_2 bn4_2 kn4_2 .double (3 : Int32) [(.double (0 : UInt64)), (.double (0 : UInt64)), (.double (0 : UInt64))] (.double (0 : UInt64)) := (Arv.new An4_2 (by decide)).pad (pad_rep [] (.double (0 : UInt64)) 3)
  have Oo4_4 := V_bn4_2
  obtain ⟨clo4_4, Aro4_4, qo4_4, So4_4, No4_4, Ho4_4, Go4_4⟩ := Oo4_4
  have hino4_4 : ¬ ((0 : Int32) < 0 ∨ clo4_4.slots.size ≤ ((0 : Int32)).toNatClampNeg) := inb_of So4_4 ⟨by decide, by decide⟩
  obtain ⟨To4_4, ho4_4, Xo4_4, eo4_4, Wo4_4, sto4_4⟩ := stD Xn4_2 hx hZ en4_2 Aro4_4 (j := (0 : Int32)) hino4_4 (g := (mkF m 11 #[.val (.ref a4_0), .val (.double d4_1), .second, .val (.double d4_2), .second, .val (.double d4_3), .second, .val (.double d4_4), .second, .val (.double d4_5), .second, .val (.double d4_6), .second] [(.double d4_1), (.int (0 : Int32)), (.ref bn4_2), (.ref bn4_2), (.ref a4_0)])) rfl rfl (hb hby own_d4_11)
  have Vwo4_4 : Arv Z ho4_4 bn4_2 kn4_2 .double (3 : Int32) [(.double d4_1), (.double (0 : UInt64)), (.double (0 : UInt64))] (.double (0 : UInt64)) := Arv.set Aro4_4 qo4_4 So4_4 No4_4 Ho4_4 Go4_4 rfl Wo4_4 0 rfl (Nat.le_of_ble_eq_true rfl)
  have sz4_5 : h0.size ≤ ho4_4.size := Nat.le_trans sz4_3 (Nat.le_of_eq Wo4_4.size.symm)
  have Nfo4_4 := Fr.snoc Xo4_4 N0 g_bn4_2
  have Oo4_6 := Vwo4_4
  obtain ⟨clo4_6, Aro4_6, qo4_6, So4_6, No4_6, Ho4_6, Go4_6⟩ := Oo4_6
  have hino4_6 : ¬ ((1 : Int32) < 0 ∨ clo4_6.slots.size ≤ ((1 : Int32)).toNatClampNeg) := inb_of So4_6 ⟨by decide, by decide⟩
  obtain ⟨To4_6, ho4_6, Xo4_6, eo4_6, Wo4_6, sto4_6⟩ := stD Xo4_4 hx hZ eo4_4 Aro4_6 (j := (1 : Int32)) hino4_6 (g := (mkF m 16 #[.val (.ref a4_0), .val (.double d4_1), .second, .val (.double d4_2), .second, .val (.double d4_3), .second, .val (.double d4_4), .second, .val (.double d4_5), .second, .val (.double d4_6), .second] [(.double d4_3), (.int (1 : Int32)), (.ref bn4_2), (.ref bn4_2), (.ref a4_0)])) rfl rfl (hb hby own_d4_16)
  have Vwo4_6 : Arv Z ho4_6 bn4_2 kn4_2 .double (3 : Int32) [(.double d4_1), (.double d4_3), (.double (0 : UInt64))] (.double (0 : UInt64)) := Arv.set Aro4_6 qo4_6 So4_6 No4_6 Ho4_6 Go4_6 rfl Wo4_6 1 rfl (Nat.le_of_ble_eq_true rfl)
  have sz4_7 : h0.size ≤ ho4_6.size := Nat.le_trans sz4_5 (Nat.le_of_eq Wo4_6.size.symm)
  have Nfo4_6 := Fr.snoc Xo4_6 Nfo4_4 g_bn4_2
  have Oo4_8 := Vwo4_6
  obtain ⟨clo4_8, Aro4_8, qo4_8, So4_8, No4_8, Ho4_8, Go4_8⟩ := Oo4_8
  have hino4_8 : ¬ ((2 : Int32) < 0 ∨ clo4_8.slots.size ≤ ((2 : Int32)).toNatClampNeg) := inb_of So4_8 ⟨by decide, by decide⟩
  obtain ⟨To4_8, ho4_8, Xo4_8, eo4_8, Wo4_8, sto4_8⟩ := stD Xo4_6 hx hZ eo4_6 Aro4_8 (j := (2 : Int32)) hino4_8 (g := (mkF m 21 #[.val (.ref a4_0), .val (.double d4_1), .second, .val (.double d4_2), .second, .val (.double d4_3), .second, .val (.double d4_4), .second, .val (.double d4_5), .second, .val (.double d4_6), .second] [(.double d4_5), (.int (2 : Int32)), (.ref bn4_2), (.ref bn4_2), (.ref a4_0)])) rfl rfl (hb hby own_d4_21)
  have Vwo4_8 : Arv Z ho4_8 bn4_2 kn4_2 .double (3 : Int32) [(.double d4_1), (.double d4_3), (.double d4_5)] (.double (0 : UInt64)) := Arv.set Aro4_8 qo4_8 So4_8 No4_8 Ho4_8 Go4_8 rfl Wo4_8 2 rfl (Nat.le_of_ble_eq_true rfl)
  have sz4_9 : h0.size ≤ ho4_8.size := Nat.le_trans sz4_7 (Nat.le_of_eq Wo4_8.size.symm)
  have Nfo4_8 := Fr.snoc Xo4_8 Nfo4_6 g_bn4_2
  have F4_10 := ((((E_a4_0.ext En4_2).wr Wo4_4).wr Wo4_6).wr Wo4_8)
  have ne4_11 : a4_0 ≠ bn4_2 := (Nat.ne_of_lt (Nat.lt_of_lt_of_le F_xs_a4_0.lt (Nat.le_of_eq gn4_2.symm)))
  have F4_12 := ((((F_xs_a4_0.ext En4_2).other Wo4_4 (Or.inl ne4_11)).other Wo4_6 (Or.inl ne4_11)).other Wo4_8 (Or.inl ne4_11))
  obtain ⟨Tn4_13, hn4_13, Xn4_13, en4_13, Wn4_13, stn4_13⟩ := putF Xo4_8 hx hZ hown (host := "") (Or.inl (hw _ (List.mem_of_getElem? (i := 21) rfl))) Via.refl eo4_8 F4_12 F4_10 (Or.inr ⟨(hw _ (List.mem_of_getElem? (i := 22) rfl)), rfl, hnm⟩) (hw _ (List.mem_of_getElem? (i := 12) rfl)) (ty := (.array .double)) (by decide) rfl rfl (g := (mkF m 22 #[.val (.ref a4_0), .val (.double d4_1), .second, .val (.double d4_2), .second, .val (.double d4_3), .second, .val (.double d4_4), .second, .val (.double d4_5), .second, .val (.double d4_6), .second] [(.ref bn4_2), (.ref a4_0)])) rfl rfl (hb hby own_d4_22)
  have Fwn4_13 : Fld Z hn4_13 a4_0 "com/example/wideberth/wideberth/maximin/Triangle" "xs" "[D" (.ref bn4_2) := F4_12.same Wn4_13
  have sz4_14 : h0.size ≤ hn4_13.size := Nat.le_trans sz4_9 (Nat.le_of_eq Wn4_13.size.symm)
  have Nn4_13 := Fr.snoc Xn4_13 Nfo4_8 g_a4_0
  obtain ⟨Tn4_15, hn4_15, kn4_15, Xn4_15, en4_15, En4_15, An4_15, stn4_15⟩ := newP Xn4_13 hx hZ (hw _ (List.mem_of_getElem? (i := 20) rfl)) en4_13 (g := (mkF m 27 #[.val (.ref a4_0), .val (.double d4_1), .second, .val (.double d4_2), .second, .val (.double d4_3), .second, .val (.double d4_4), .second, .val (.double d4_5), .second, .val (.double d4_6), .second] [(.int (3 : Int32)), (.ref a4_0)])) rfl (hb hby own_d4_27) rfl (by decide) (cap := 3) (by decide) (by decide) (by decide) (by decide)
  obtain ⟨bn4_15, gn4_15⟩ : ∃ z, z = hn4_13.size := ⟨_, rfl⟩
  rw [← gn4_15] at An4_15 stn4_15
  have g_bn4_15 : n0 ≤ bn4_15 := Nat.le_trans (Nat.le_trans Z0 sz4_14) (Nat.le_of_eq gn4_15.symm)
  have sz_bn4_15 : h0.size ≤ bn4_15 := Nat.le_trans sz4_14 (Nat.le_of_eq gn4_15.symm)
  have sz4_16 : h0.size ≤ hn4_15.size := Nat.le_trans sz4_14 En4_15.1
  have V_bn4_15 : Arv Z hn4_15 bn4_15 kn4_15 .double (3 : Int32) [(.double (0 : UInt64)), (.double (0 : UInt64)), (.double (0 : UInt64))] (.double (0 : UInt64)) := (Arv.new An4_15 (by decide)).pad (pad_rep [] (.double (0 : UInt64)) 3)
  have Oo4_17 := V_bn4_15
  obtain ⟨clo4_17, Aro4_17, qo4_17, So4_17, No4_17, Ho4_17, Go4_17⟩ := Oo4_17
  have hino4_17 : ¬ ((0 : Int32) < 0 ∨ clo4_17.slots.size ≤ ((0 : Int32)).toNatClampNeg) := inb_of So4_17 ⟨by decide, by decide⟩
  obtain ⟨To4_17, ho4_17, Xo4_17, eo4_17, Wo4_17, sto4_17⟩ := stD Xn4_15 hx hZ en4_15 Aro4_17 (j := (0 : Int32)) hino4_17 (g := (mkF m 32 #[.val (.ref a4_0), .val (.double d4_1), .second, .val (.double d4_2), .second, .val (.double d4_3), .second, .val (.double d4_4), .second, .val (.double d4_5), .second, .val (.double d4_6), .second] [(.double d4_2), (.int (0 : Int32)), (.ref bn4_15), (.ref bn4_15), (.ref a4_0)])) rfl rfl (hb hby own_d4_32)
  have Vwo4_17 : Arv Z ho4_17 bn4_15 kn4_15 .double (3 : Int32) [(.double d4_2), (.double (0 : UInt64)), (.double (0 : UInt64))] (.double (0 : UInt64)) := Arv.set Aro4_17 qo4_17 So4_17 No4_17 Ho4_17 Go4_17 rfl Wo4_17 0 rfl (Nat.le_of_ble_eq_true rfl)
  have sz4_18 : h0.size ≤ ho4_17.size := Nat.le_trans sz4_16 (Nat.le_of_eq Wo4_17.size.symm)
  have Nfo4_17 := Fr.snoc Xo4_17 Nn4_13 g_bn4_15
  have Oo4_19 := Vwo4_17
  obtain ⟨clo4_19, Aro4_19, qo4_19, So4_19, No4_19, Ho4_19, Go4_19⟩ := Oo4_19
  have hino4_19 : ¬ ((1 : Int32) < 0 ∨ clo4_19.slots.size ≤ ((1 : Int32)).toNatClampNeg) := inb_of So4_19 ⟨by decide, by decide⟩
  obtain ⟨To4_19, ho4_19, Xo4_19, eo4_19, Wo4_19, sto4_19⟩ := stD Xo4_17 hx hZ eo4_17 Aro4_19 (j := (1 : Int32)) hino4_19 (g := (mkF m 37 #[.val (.ref a4_0), .val (.double d4_1), .second, .val (.double d4_2), .second, .val (.double d4_3), .second, .val (.double d4_4), .second, .val (.double d4_5), .second, .val (.double d4_6), .second] [(.double d4_4), (.int (1 : Int32)), (.ref bn4_15), (.ref bn4_15), (.ref a4_0)])) rfl rfl (hb hby own_d4_37)
  have Vwo4_19 : Arv Z ho4_19 bn4_15 kn4_15 .double (3 : Int32) [(.double d4_2), (.double d4_4), (.double (0 : UInt64))] (.double (0 : UInt64)) := Arv.set Aro4_19 qo4_19 So4_19 No4_19 Ho4_19 Go4_19 rfl Wo4_19 1 rfl (Nat.le_of_ble_eq_true rfl)
  have sz4_20 : h0.size ≤ ho4_19.size := Nat.le_trans sz4_18 (Nat.le_of_eq Wo4_19.size.symm)
  have Nfo4_19 := Fr.snoc Xo4_19 Nfo4_17 g_bn4_15
  have Oo4_21 := Vwo4_19
  obtain ⟨clo4_21, Aro4_21, qo4_21, So4_21, No4_21, Ho4_21, Go4_21⟩ := Oo4_21
  have hino4_21 : ¬ ((2 : Int32) < 0 ∨ clo4_21.slots.size ≤ ((2 : Int32)).toNatClampNeg) := inb_of So4_21 ⟨by decide, by decide⟩
  obtain ⟨To4_21, ho4_21, Xo4_21, eo4_21, Wo4_21, sto4_21⟩ := stD Xo4_19 hx hZ eo4_19 Aro4_21 (j := (2 : Int32)) hino4_21 (g := (mkF m 42 #[.val (.ref a4_0), .val (.double d4_1), .second, .val (.double d4_2), .second, .val (.double d4_3), .second, .val (.double d4_4), .second, .val (.double d4_5), .second, .val (.double d4_6), .second] [(.double d4_6), (.int (2 : Int32)), (.ref bn4_15), (.ref bn4_15), (.ref a4_0)])) rfl rfl (hb hby own_d4_42)
  have Vwo4_21 : Arv Z ho4_21 bn4_15 kn4_15 .double (3 : Int32) [(.double d4_2), (.double d4_4), (.double d4_6)] (.double (0 : UInt64)) := Arv.set Aro4_21 qo4_21 So4_21 No4_21 Ho4_21 Go4_21 rfl Wo4_21 2 rfl (Nat.le_of_ble_eq_true rfl)
  have sz4_22 : h0.size ≤ ho4_21.size := Nat.le_trans sz4_20 (Nat.le_of_eq Wo4_21.size.symm)
  have Nfo4_21 := Fr.snoc Xo4_21 Nfo4_19 g_bn4_15
  have F4_23 := (((((F4_10.wr Wn4_13).ext En4_15).wr Wo4_17).wr Wo4_19).wr Wo4_21)
  have ne4_24 : a4_0 ≠ bn4_15 := (Nat.ne_of_lt (Nat.lt_of_lt_of_le (((((F_ys_a4_0.ext En4_2).other Wo4_4 (Or.inl ne4_11)).other Wo4_6 (Or.inl ne4_11)).other Wo4_8 (Or.inl ne4_11)).other Wn4_13 (Or.inr (slot_ne (Or.inr (hw _ (List.mem_of_getElem? (i := 24) rfl))) (Or.inr (hw _ (List.mem_of_getElem? (i := 22) rfl))) (by decide) (t := (.array .double)) (t' := (.array .double)) (by decide) (by decide)))).lt (Nat.le_of_eq gn4_15.symm)))
  have F4_25 := (((((((((F_ys_a4_0.ext En4_2).other Wo4_4 (Or.inl ne4_11)).other Wo4_6 (Or.inl ne4_11)).other Wo4_8 (Or.inl ne4_11)).other Wn4_13 (Or.inr (slot_ne (Or.inr (hw _ (List.mem_of_getElem? (i := 24) rfl))) (Or.inr (hw _ (List.mem_of_getElem? (i := 22) rfl))) (by decide) (t := (.array .double)) (t' := (.array .double)) (by decide) (by decide)))).ext En4_15).other Wo4_17 (Or.inl ne4_24)).other Wo4_19 (Or.inl ne4_24)).other Wo4_21 (Or.inl ne4_24))
  obtain ⟨Tn4_26, hn4_26, Xn4_26, en4_26, Wn4_26, stn4_26⟩ := putF Xo4_21 hx hZ hown (host := "") (Or.inl (hw _ (List.mem_of_getElem? (i := 23) rfl))) Via.refl eo4_21 F4_25 F4_23 (Or.inr ⟨(hw _ (List.mem_of_getElem? (i := 24) rfl)), rfl, hnm⟩) (hw _ (List.mem_of_getElem? (i := 12) rfl)) (ty := (.array .double)) (by decide) rfl rfl (g := (mkF m 43 #[.val (.ref a4_0), .val (.double d4_1), .second, .val (.double d4_2), .second, .val (.double d4_3), .second, .val (.double d4_4), .second, .val (.double d4_5), .second, .val (.double d4_6), .second] [(.ref bn4_15), (.ref a4_0)])) rfl rfl (hb hby own_d4_43)
  have Fwn4_26 : Fld Z hn4_26 a4_0 "com/example/wideberth/wideberth/maximin/Triangle" "ys" "[D" (.ref bn4_15) := F4_25.same Wn4_26
  have sz4_27 : h0.size ≤ hn4_26.size := Nat.le_trans sz4_22 (Nat.le_of_eq Wn4_26.size.symm)
  have Nn4_26 := Fr.snoc Xn4_26 Nfo4_21 g_a4_0
  have ne4_28 : bn4_15 ≠ bn4_2 := (Ne.symm (Nat.ne_of_lt (Nat.lt_of_lt_of_le (Vwo4_8.other Wn4_13 (Ne.symm ne4_11)).lt (Nat.le_of_eq gn4_15.symm))))
  obtain ⟨fs, hr, hrun, hended, hW, hsame⟩ := Xn4_26.leave (v := none) (fun _ => rfl)
  refine ⟨_, _, pre0 _ (?_), hrun, hended, _, _, rfl, ?_, ⟨_, rfl⟩, hW, hsame.mono (by decide) (by decide)⟩
  · show Steps p.tables e below (s₁.setTop (mkF m 0 #[.val (.ref a4_0), .val (.double d4_1), .second, .val (.double d4_2), .second, .val (.double d4_3), .second, .val (.double d4_4), .second, .val (.double d4_5), .second, .val (.double d4_6), .second] [])) _
    refine XS.aloadN X0.here hx rfl (hb hby own_d4_0) rfl rfl ?_
    show Steps p.tables e below (s₁.setTop (mkF m 1 #[.val (.ref a4_0), .val (.double d4_1), .second, .val (.double d4_2), .second, .val (.double d4_3), .second, .val (.double d4_4), .second, .val (.double d4_5), .second, .val (.double d4_6), .second] [(.ref a4_0)])) _
    refine stn4_1 _ ?_
    show Steps p.tables e below (Tn4_1.setTop (mkF m 4 #[.val (.ref a4_0), .val (.double d4_1), .second, .val (.double d4_2), .second, .val (.double d4_3), .second, .val (.double d4_4), .second, .val (.double d4_5), .second, .val (.double d4_6), .second] [])) _
    refine XS.aloadN Xn4_1.here hx rfl (hb hby own_d4_4) rfl rfl ?_
    show Steps p.tables e below (Tn4_1.setTop (mkF m 5 #[.val (.ref a4_0), .val (.double d4_1), .second, .val (.double d4_2), .second, .val (.double d4_3), .second, .val (.double d4_4), .second, .val (.double d4_5), .second, .val (.double d4_6), .second] [(.ref a4_0)])) _
    refine XS.iconst Xn4_1.here hx rfl (hb hby own_d4_5) ?_
    show Steps p.tables e below (Tn4_1.setTop (mkF m 6 #[.val (.ref a4_0), .val (.double d4_1), .second, .val (.double d4_2), .second, .val (.double d4_3), .second, .val (.double d4_4), .second, .val (.double d4_5), .second, .val (.double d4_6), .second] [(.int (3 : Int32)), (.ref a4_0)])) _
    refine stn4_2 _ ?_
    show Steps p.tables e below (Tn4_2.setTop (mkF m 8 #[.val (.ref a4_0), .val (.double d4_1), .second, .val (.double d4_2), .second, .val (.double d4_3), .second, .val (.double d4_4), .second, .val (.double d4_5), .second, .val (.double d4_6), .second] [(.ref bn4_2), (.ref a4_0)])) _
    refine XS.dup Xn4_2.here hx rfl (hb hby own_d4_8) rfl rfl ?_
    show Steps p.tables e below (Tn4_2.setTop (mkF m 9 #[.val (.ref a4_0), .val (.double d4_1), .second, .val (.double d4_2), .second, .val (.double d4_3), .second, .val (.double d4_4), .second, .val (.double d4_5), .second, .val (.double d4_6), .second] [(.ref bn4_2), (.ref bn4_2), (.ref a4_0)])) _
    refine XS.iconst Xn4_2.here hx rfl (hb hby own_d4_9) ?_
    show Steps p.tables e below (Tn4_2.setTop (mkF m 10 #[.val (.ref a4_0), .val (.double d4_1), .second, .val (.double d4_2), .second, .val (.double d4_3), .second, .val (.double d4_4), .second, .val (.double d4_5), .second, .val (.double d4_6), .second] [(.int (0 : Int32)), (.ref bn4_2), (.ref bn4_2), (.ref a4_0)])) _
    refine XS.dloadN Xn4_2.here hx rfl (hb hby own_d4_10) rfl ?_
    show Steps p.tables e below (Tn4_2.setTop (mkF m 11 #[.val (.ref a4_0), .val (.double d4_1), .second, .val (.double d4_2), .second, .val (.double d4_3), .second, .val (.double d4_4), .second, .val (.double d4_5), .second, .val (.double d4_6), .second] [(.double d4_1), (.int (0 : Int32)), (.ref bn4_2), (.ref bn4_2), (.ref a4_0)])) _
    refine sto4_4 _ ?_
    show Steps p.tables e below (To4_4.setTop (mkF m 12 #[.val (.ref a4_0), .val (.double d4_1), .second, .val (.double d4_2), .second, .val (.double d4_3), .second, .val (.double d4_4), .second, .val (.double d4_5), .second, .val (.double d4_6), .second] [(.ref bn4_2), (.ref a4_0)])) _
    refine XS.dup Xo4_4.here hx rfl (hb hby own_d4_12) rfl rfl ?_
    show Steps p.tables e below (To4_4.setTop (mkF m 13 #[.val (.ref a4_0), .val (.double d4_1), .second, .val (.double d4_2), .second, .val (.double d4_3), .second, .val (.double d4_4), .second, .val (.double d4_5), .second, .val (.double d4_6), .second] [(.ref bn4_2), (.ref bn4_2), (.ref a4_0)])) _
    refine XS.iconst Xo4_4.here hx rfl (hb hby own_d4_13) ?_
    show Steps p.tables e below (To4_4.setTop (mkF m 14 #[.val (.ref a4_0), .val (.double d4_1), .second, .val (.double d4_2), .second, .val (.double d4_3), .second, .val (.double d4_4), .second, .val (.double d4_5), .second, .val (.double d4_6), .second] [(.int (1 : Int32)), (.ref bn4_2), (.ref bn4_2), (.ref a4_0)])) _
    refine XS.dload Xo4_4.here hx rfl (hb hby own_d4_14) rfl ?_
    show Steps p.tables e below (To4_4.setTop (mkF m 16 #[.val (.ref a4_0), .val (.double d4_1), .second, .val (.double d4_2), .second, .val (.double d4_3), .second, .val (.double d4_4), .second, .val (.double d4_5), .second, .val (.double d4_6), .second] [(.double d4_3), (.int (1 : Int32)), (.ref bn4_2), (.ref bn4_2), (.ref a4_0)])) _
    refine sto4_6 _ ?_
    show Steps p.tables e below (To4_6.setTop (mkF m 17 #[.val (.ref a4_0), .val (.double d4_1), .second, .val (.double d4_2), .second, .val (.double d4_3), .second, .val (.double d4_4), .second, .val (.double d4_5), .second, .val (.double d4_6), .second] [(.ref bn4_2), (.ref a4_0)])) _
    refine XS.dup Xo4_6.here hx rfl (hb hby own_d4_17) rfl rfl ?_
    show Steps p.tables e below (To4_6.setTop (mkF m 18 #[.val (.ref a4_0), .val (.double d4_1), .second, .val (.double d4_2), .second, .val (.double d4_3), .second, .val (.double d4_4), .second, .val (.double d4_5), .second, .val (.double d4_6), .second] [(.ref bn4_2), (.ref bn4_2), (.ref a4_0)])) _
    refine XS.iconst Xo4_6.here hx rfl (hb hby own_d4_18) ?_
    show Steps p.tables e below (To4_6.setTop (mkF m 19 #[.val (.ref a4_0), .val (.double d4_1), .second, .val (.double d4_2), .second, .val (.double d4_3), .second, .val (.double d4_4), .second, .val (.double d4_5), .second, .val (.double d4_6), .second] [(.int (2 : Int32)), (.ref bn4_2), (.ref bn4_2), (.ref a4_0)])) _
    refine XS.dload Xo4_6.here hx rfl (hb hby own_d4_19) rfl ?_
    show Steps p.tables e below (To4_6.setTop (mkF m 21 #[.val (.ref a4_0), .val (.double d4_1), .second, .val (.double d4_2), .second, .val (.double d4_3), .second, .val (.double d4_4), .second, .val (.double d4_5), .second, .val (.double d4_6), .second] [(.double d4_5), (.int (2 : Int32)), (.ref bn4_2), (.ref bn4_2), (.ref a4_0)])) _
    refine sto4_8 _ ?_
    show Steps p.tables e below (To4_8.setTop (mkF m 22 #[.val (.ref a4_0), .val (.double d4_1), .second, .val (.double d4_2), .second, .val (.double d4_3), .second, .val (.double d4_4), .second, .val (.double d4_5), .second, .val (.double d4_6), .second] [(.ref bn4_2), (.ref a4_0)])) _
    refine stn4_13 _ ?_
    show Steps p.tables e below (Tn4_13.setTop (mkF m 25 #[.val (.ref a4_0), .val (.double d4_1), .second, .val (.double d4_2), .second, .val (.double d4_3), .second, .val (.double d4_4), .second, .val (.double d4_5), .second, .val (.double d4_6), .second] [])) _
    refine XS.aloadN Xn4_13.here hx rfl (hb hby own_d4_25) rfl rfl ?_
    show Steps p.tables e below (Tn4_13.setTop (mkF m 26 #[.val (.ref a4_0), .val (.double d4_1), .second, .val (.double d4_2), .second, .val (.double d4_3), .second, .val (.double d4_4), .second, .val (.double d4_5), .second, .val (.double d4_6), .second] [(.ref a4_0)])) _
    refine XS.iconst Xn4_13.here hx rfl (hb hby own_d4_26) ?_
    show Steps p.tables e below (Tn4_13.setTop (mkF m 27 #[.val (.ref a4_0), .val (.double d4_1), .second, .val (.double d4_2), .second, .val (.double d4_3), .second, .val (.double d4_4), .second, .val (.double d4_5), .second, .val (.double d4_6), .second] [(.int (3 : Int32)), (.ref a4_0)])) _
    refine stn4_15 _ ?_
    show Steps p.tables e below (Tn4_15.setTop (mkF m 29 #[.val (.ref a4_0), .val (.double d4_1), .second, .val (.double d4_2), .second, .val (.double d4_3), .second, .val (.double d4_4), .second, .val (.double d4_5), .second, .val (.double d4_6), .second] [(.ref bn4_15), (.ref a4_0)])) _
    refine XS.dup Xn4_15.here hx rfl (hb hby own_d4_29) rfl rfl ?_
    show Steps p.tables e below (Tn4_15.setTop (mkF m 30 #[.val (.ref a4_0), .val (.double d4_1), .second, .val (.double d4_2), .second, .val (.double d4_3), .second, .val (.double d4_4), .second, .val (.double d4_5), .second, .val (.double d4_6), .second] [(.ref bn4_15), (.ref bn4_15), (.ref a4_0)])) _
    refine XS.iconst Xn4_15.here hx rfl (hb hby own_d4_30) ?_
    show Steps p.tables e below (Tn4_15.setTop (mkF m 31 #[.val (.ref a4_0), .val (.double d4_1), .second, .val (.double d4_2), .second, .val (.double d4_3), .second, .val (.double d4_4), .second, .val (.double d4_5), .second, .val (.double d4_6), .second] [(.int (0 : Int32)), (.ref bn4_15), (.ref bn4_15), (.ref a4_0)])) _
    refine XS.dloadN Xn4_15.here hx rfl (hb hby own_d4_31) rfl ?_
    show Steps p.tables e below (Tn4_15.setTop (mkF m 32 #[.val (.ref a4_0), .val (.double d4_1), .second, .val (.double d4_2), .second, .val (.double d4_3), .second, .val (.double d4_4), .second, .val (.double d4_5), .second, .val (.double d4_6), .second] [(.double d4_2), (.int (0 : Int32)), (.ref bn4_15), (.ref bn4_15), (.ref a4_0)])) _
    refine sto4_17 _ ?_
    show Steps p.tables e below (To4_17.setTop (mkF m 33 #[.val (.ref a4_0), .val (.double d4_1), .second, .val (.double d4_2), .second, .val (.double d4_3), .second, .val (.double d4_4), .second, .val (.double d4_5), .second, .val (.double d4_6), .second] [(.ref bn4_15), (.ref a4_0)])) _
    refine XS.dup Xo4_17.here hx rfl (hb hby own_d4_33) rfl rfl ?_
    show Steps p.tables e below (To4_17.setTop (mkF m 34 #[.val (.ref a4_0), .val (.double d4_1), .second, .val (.double d4_2), .second, .val (.double d4_3), .second, .val (.double d4_4), .second, .val (.double d4_5), .second, .val (.double d4_6), .second] [(.ref bn4_15), (.ref bn4_15), (.ref a4_0)])) _
    refine XS.iconst Xo4_17.here hx rfl (hb hby own_d4_34) ?_
    show Steps p.tables e below (To4_17.setTop (mkF m 35 #[.val (.ref a4_0), .val (.double d4_1), .second, .val (.double d4_2), .second, .val (.double d4_3), .second, .val (.double d4_4), .second, .val (.double d4_5), .second, .val (.double d4_6), .second] [(.int (1 : Int32)), (.ref bn4_15), (.ref bn4_15), (.ref a4_0)])) _
    refine XS.dload Xo4_17.here hx rfl (hb hby own_d4_35) rfl ?_
    show Steps p.tables e below (To4_17.setTop (mkF m 37 #[.val (.ref a4_0), .val (.double d4_1), .second, .val (.double d4_2), .second, .val (.double d4_3), .second, .val (.double d4_4), .second, .val (.double d4_5), .second, .val (.double d4_6), .second] [(.double d4_4), (.int (1 : Int32)), (.ref bn4_15), (.ref bn4_15), (.ref a4_0)])) _
    refine sto4_19 _ ?_
    show Steps p.tables e below (To4_19.setTop (mkF m 38 #[.val (.ref a4_0), .val (.double d4_1), .second, .val (.double d4_2), .second, .val (.double d4_3), .second, .val (.double d4_4), .second, .val (.double d4_5), .second, .val (.double d4_6), .second] [(.ref bn4_15), (.ref a4_0)])) _
    refine XS.dup Xo4_19.here hx rfl (hb hby own_d4_38) rfl rfl ?_
    show Steps p.tables e below (To4_19.setTop (mkF m 39 #[.val (.ref a4_0), .val (.double d4_1), .second, .val (.double d4_2), .second, .val (.double d4_3), .second, .val (.double d4_4), .second, .val (.double d4_5), .second, .val (.double d4_6), .second] [(.ref bn4_15), (.ref bn4_15), (.ref a4_0)])) _
    refine XS.iconst Xo4_19.here hx rfl (hb hby own_d4_39) ?_
    show Steps p.tables e below (To4_19.setTop (mkF m 40 #[.val (.ref a4_0), .val (.double d4_1), .second, .val (.double d4_2), .second, .val (.double d4_3), .second, .val (.double d4_4), .second, .val (.double d4_5), .second, .val (.double d4_6), .second] [(.int (2 : Int32)), (.ref bn4_15), (.ref bn4_15), (.ref a4_0)])) _
    refine XS.dload Xo4_19.here hx rfl (hb hby own_d4_40) rfl ?_
    show Steps p.tables e below (To4_19.setTop (mkF m 42 #[.val (.ref a4_0), .val (.double d4_1), .second, .val (.double d4_2), .second, .val (.double d4_3), .second, .val (.double d4_4), .second, .val (.double d4_5), .second, .val (.double d4_6), .second] [(.double d4_6), (.int (2 : Int32)), (.ref bn4_15), (.ref bn4_15), (.ref a4_0)])) _
    refine sto4_21 _ ?_
    show Steps p.tables e below (To4_21.setTop (mkF m 43 #[.val (.ref a4_0), .val (.double d4_1), .second, .val (.double d4_2), .second, .val (.double d4_3), .second, .val (.double d4_4), .second, .val (.double d4_5), .second, .val (.double d4_6), .second] [(.ref bn4_15), (.ref a4_0)])) _
    refine stn4_26 _ ?_
    show Steps p.tables e below (Tn4_26.setTop (mkF m 46 #[.val (.ref a4_0), .val (.double d4_1), .second, .val (.double d4_2), .second, .val (.double d4_3), .second, .val (.double d4_4), .second, .val (.double d4_5), .second, .val (.double d4_6), .second] [])) _
    exact Xn4_26.returnOut hx Bd.returns (hb hby own_d4_46) hr
  · show own_Q4 Z a4_0 d4_1 d4_2 d4_3 d4_4 d4_5 d4_6 w_xs_a4_0 w_ys_a4_0 h0 n0 _ Tn4_26.heap _
    rw [en4_26]
    exact ⟨bn4_2, kn4_2, bn4_15, kn4_15, rfl, Nn4_26, (((((((((((Keep.refl h0 [a4_0]).ext En4_2).wr Wo4_4 (Or.inr sz_bn4_2)).wr Wo4_6 (Or.inr sz_bn4_2)).wr Wo4_8 (Or.inr sz_bn4_2)).wr Wn4_13 (Or.inl (List.mem_of_getElem? (i := 0) rfl))).ext En4_15).wr Wo4_17 (Or.inr sz_bn4_15)).wr Wo4_19 (Or.inr sz_bn4_15)).wr Wo4_21 (Or.inr sz_bn4_15)).wr Wn4_26 (Or.inl (List.mem_of_getElem? (i := 0) rfl))), sz_bn4_2, sz_bn4_15, (Ne.symm ne4_28), (F4_23.wr Wn4_26), (((((Fwn4_13.ext En4_15).other Wo4_17 (Or.inl ne4_24)).other Wo4_19 (Or.inl ne4_24)).other Wo4_21 (Or.inl ne4_24)).other Wn4_26 (Or.inr (slot_ne (Or.inr (hw _ (List.mem_of_getElem? (i := 22) rfl))) (Or.inr (hw _ (List.mem_of_getElem? (i := 24) rfl))) (by decide) (t := (.array .double)) (t' := (.array .double)) (by decide) (by decide)))), Fwn4_26, ((((((Vwo4_8.other Wn4_13 (Ne.symm ne4_11)).ext En4_15).other Wo4_17 (Ne.symm ne4_28)).other Wo4_19 (Ne.symm ne4_28)).other Wo4_21 (Ne.symm ne4_28)).other Wn4_26 (Ne.symm ne4_11)), (Vwo4_21.other Wn4_26 (Ne.symm ne4_24))⟩
theorem own_d7_0 : decode prog_23_method_8_code 0 = .ok (.iload_n 1, 1) := by decide +kernel
theorem own_d7_1 : decode prog_23_method_8_code 1 = .ok (.iconst 1, 1) := by decide +kernel
theorem own_d7_2 : decode prog_23_method_8_code 2 = .ok (.iadd, 1) := by decide +kernel
theorem own_d7_3 : decode prog_23_method_8_code 3 = .ok (.iconst 3, 1) := by decide +kernel
theorem own_d7_4 : decode prog_23_method_8_code 4 = .ok (.irem, 1) := by decide +kernel
theorem own_d7_5 : decode prog_23_method_8_code 5 = .ok (.istore 6, 2) := by decide +kernel
theorem own_d7_7 : decode prog_23_method_8_code 7 = .ok (.aload_n 0, 1) := by decide +kernel
theorem own_d7_8 : decode prog_23_method_8_code 8 = .ok (.getfield 7, 3) := by decide +kernel
theorem own_d7_11 : decode prog_23_method_8_code 11 = .ok (.iload 6, 2) := by decide +kernel
theorem own_d7_13 : decode prog_23_method_8_code 13 = .ok (.daload, 1) := by decide +kernel
theorem own_d7_14 : decode prog_23_method_8_code 14 = .ok (.aload_n 0, 1) := by decide +kernel
theorem own_d7_15 : decode prog_23_method_8_code 15 = .ok (.getfield 7, 3) := by decide +kernel
theorem own_d7_18 : decode prog_23_method_8_code 18 = .ok (.iload_n 1, 1) := by decide +kernel
theorem own_d7_19 : decode prog_23_method_8_code 19 = .ok (.daload, 1) := by decide +kernel
theorem own_d7_20 : decode prog_23_method_8_code 20 = .ok (.dsub, 1) := by decide +kernel
theorem own_d7_21 : decode prog_23_method_8_code 21 = .ok (.dload 4, 2) := by decide +kernel
theorem own_d7_23 : decode prog_23_method_8_code 23 = .ok (.aload_n 0, 1) := by decide +kernel
theorem own_d7_24 : decode prog_23_method_8_code 24 = .ok (.getfield 13, 3) := by decide +kernel
theorem own_d7_27 : decode prog_23_method_8_code 27 = .ok (.iload_n 1, 1) := by decide +kernel
theorem own_d7_28 : decode prog_23_method_8_code 28 = .ok (.daload, 1) := by decide +kernel
theorem own_d7_29 : decode prog_23_method_8_code 29 = .ok (.dsub, 1) := by decide +kernel
theorem own_d7_30 : decode prog_23_method_8_code 30 = .ok (.dmul, 1) := by decide +kernel
theorem own_d7_31 : decode prog_23_method_8_code 31 = .ok (.aload_n 0, 1) := by decide +kernel
theorem own_d7_32 : decode prog_23_method_8_code 32 = .ok (.getfield 13, 3) := by decide +kernel
theorem own_d7_35 : decode prog_23_method_8_code 35 = .ok (.iload 6, 2) := by decide +kernel
theorem own_d7_37 : decode prog_23_method_8_code 37 = .ok (.daload, 1) := by decide +kernel
theorem own_d7_38 : decode prog_23_method_8_code 38 = .ok (.aload_n 0, 1) := by decide +kernel
theorem own_d7_39 : decode prog_23_method_8_code 39 = .ok (.getfield 13, 3) := by decide +kernel
theorem own_d7_42 : decode prog_23_method_8_code 42 = .ok (.iload_n 1, 1) := by decide +kernel
theorem own_d7_43 : decode prog_23_method_8_code 43 = .ok (.daload, 1) := by decide +kernel
theorem own_d7_44 : decode prog_23_method_8_code 44 = .ok (.dsub, 1) := by decide +kernel
theorem own_d7_45 : decode prog_23_method_8_code 45 = .ok (.dload_n 2, 1) := by decide +kernel
theorem own_d7_46 : decode prog_23_method_8_code 46 = .ok (.aload_n 0, 1) := by decide +kernel
theorem own_d7_47 : decode prog_23_method_8_code 47 = .ok (.getfield 7, 3) := by decide +kernel
theorem own_d7_50 : decode prog_23_method_8_code 50 = .ok (.iload_n 1, 1) := by decide +kernel
theorem own_d7_51 : decode prog_23_method_8_code 51 = .ok (.daload, 1) := by decide +kernel
theorem own_d7_52 : decode prog_23_method_8_code 52 = .ok (.dsub, 1) := by decide +kernel
theorem own_d7_53 : decode prog_23_method_8_code 53 = .ok (.dmul, 1) := by decide +kernel
theorem own_d7_54 : decode prog_23_method_8_code 54 = .ok (.dsub, 1) := by decide +kernel
theorem own_d7_55 : decode prog_23_method_8_code 55 = .ok (.dreturn, 1) := by decide +kernel
def own_r7k0_0 (d7k0_2 : UInt64) (d7k0_3 : UInt64) (x_w_xs_a7k0_0_0 : UInt64) (x_w_xs_a7k0_0_1 : UInt64) (x_w_ys_a7k0_0_0 : UInt64) (x_w_ys_a7k0_0_1 : UInt64) : UInt64 := (FP.dsub (FP.dmul (FP.dsub x_w_xs_a7k0_0_1 x_w_xs_a7k0_0_0) (FP.dsub d7k0_3 x_w_ys_a7k0_0_0)) (FP.dmul (FP.dsub x_w_ys_a7k0_0_1 x_w_ys_a7k0_0_0) (FP.dsub d7k0_2 x_w_xs_a7k0_0_0)))
theorem own_ef7k0 (m : MethodId) (a7k0_0 : Addr) (d7k0_2 : UInt64) (d7k0_3 : UInt64) : entryFrame m #[(.ref a7k0_0), (.int (0 : Int32)), (.double d7k0_2), (.double d7k0_3)] 7 = mkF m 0 #[.val (.ref a7k0_0), .val (.int (0 : Int32)), .val (.double d7k0_2), .second, .val (.double d7k0_3), .second, .unset] [] := by first | (simp [entryFrame, mkF, argsToLocals, Value.category]; done) | rfl
def own_Q7k0 (Z : State) (a7k0_0 : Addr) (d7k0_2 : UInt64) (d7k0_3 : UInt64) (w_xs_a7k0_0 : Addr) (k_w_xs_a7k0_0 : ClassId) (x_w_xs_a7k0_0_0 : UInt64) (x_w_xs_a7k0_0_1 : UInt64) (x_w_xs_a7k0_0_2 : UInt64) (w_ys_a7k0_0 : Addr) (k_w_ys_a7k0_0 : ClassId) (x_w_ys_a7k0_0_0 : UInt64) (x_w_ys_a7k0_0_1 : UInt64) (x_w_ys_a7k0_0_2 : UInt64) (h0 : Heap) (n0 : Nat) (v : Option Value) (h : Heap) (L : List Loc) : Prop := v = some (.double (own_r7k0_0 d7k0_2 d7k0_3 x_w_xs_a7k0_0_0 x_w_xs_a7k0_0_1 x_w_ys_a7k0_0_0 x_w_ys_a7k0_0_1)) ∧ Fr n0 L ∧ h = h0
set_option maxRecDepth 65536 in
set_option maxHeartbeats 40000000 in
theorem own_rm7k0 (l : Launch) (Z : State) (a0 : Array Value) (hw : ∀ d ∈ tables_1, d.before a0 Z = true) (ws : List Jvm.Cond) (a7k0_0 : Addr) (d7k0_2 : UInt64) (d7k0_3 : UInt64) (w_xs_a7k0_0 : Addr) (k_w_xs_a7k0_0 : ClassId) (x_w_xs_a7k0_0_0 : UInt64) (x_w_xs_a7k0_0_1 : UInt64) (x_w_xs_a7k0_0_2 : UInt64) (w_ys_a7k0_0 : Addr) (k_w_ys_a7k0_0 : ClassId) (x_w_ys_a7k0_0_0 : UInt64) (x_w_ys_a7k0_0_1 : UInt64) (x_w_ys_a7k0_0_2 : UInt64) (h0 : Heap) (n0 : Nat) (Z0 : n0 ≤ h0.size) (F_xs_a7k0_0 : Fld Z h0 a7k0_0 "com/example/wideberth/wideberth/maximin/Triangle" "xs" "[D" (.ref w_xs_a7k0_0)) (V_w_xs_a7k0_0 : Arv Z h0 w_xs_a7k0_0 k_w_xs_a7k0_0 .double (3 : Int32) [(.double x_w_xs_a7k0_0_0), (.double x_w_xs_a7k0_0_1), (.double x_w_xs_a7k0_0_2)] (.double (0 : UInt64))) (F_ys_a7k0_0 : Fld Z h0 a7k0_0 "com/example/wideberth/wideberth/maximin/Triangle" "ys" "[D" (.ref w_ys_a7k0_0)) (V_w_ys_a7k0_0 : Arv Z h0 w_ys_a7k0_0 k_w_ys_a7k0_0 .double (3 : Int32) [(.double x_w_ys_a7k0_0_0), (.double x_w_ys_a7k0_0_1), (.double x_w_ys_a7k0_0_2)] (.double (0 : UInt64))) (nn20 : NoNaN64 (FP.dsub x_w_xs_a7k0_0_1 x_w_xs_a7k0_0_0)) (nn29 : NoNaN64 (FP.dsub d7k0_3 x_w_ys_a7k0_0_0)) (nn30 : NoNaN64 (FP.dmul (FP.dsub x_w_xs_a7k0_0_1 x_w_xs_a7k0_0_0) (FP.dsub d7k0_3 x_w_ys_a7k0_0_0))) (nn44 : NoNaN64 (FP.dsub x_w_ys_a7k0_0_1 x_w_ys_a7k0_0_0)) (nn52 : NoNaN64 (FP.dsub d7k0_2 x_w_xs_a7k0_0_0)) (nn53 : NoNaN64 (FP.dmul (FP.dsub x_w_ys_a7k0_0_1 x_w_ys_a7k0_0_0) (FP.dsub d7k0_2 x_w_xs_a7k0_0_0))) (nn54 : NoNaN64 (FP.dsub (FP.dmul (FP.dsub x_w_xs_a7k0_0_1 x_w_xs_a7k0_0_0) (FP.dsub d7k0_3 x_w_ys_a7k0_0_0)) (FP.dmul (FP.dsub x_w_ys_a7k0_0_1 x_w_ys_a7k0_0_0) (FP.dsub d7k0_2 x_w_xs_a7k0_0_0)))) :
    MetFree l (⟨"com/example/wideberth/wideberth/maximin/Triangle", "side", "(IDD)D"⟩ : MethodName) (head1 (Jvm.Cond.code (⟨"com/example/wideberth/wideberth/maximin/Triangle", "side", "(IDD)D"⟩ : MethodName) prog_23_method_8_code 7 (some .double) :: ws) ({ frames := 0, cells := 0, slots := 0, locals := 0 } : Room)) (fun a U => a = #[(.ref a7k0_0), (.int (0 : Int32)), (.double d7k0_2), (.double d7k0_3)] ∧ Z.Warmed39 U.vm ∧ U.heap = h0) (fun _ _ _ _ _ => True) (fun _ U o U' => ∃ v L, o = .returned v ∧ own_Q7k0 Z a7k0_0 d7k0_2 d7k0_3 w_xs_a7k0_0 k_w_xs_a7k0_0 x_w_xs_a7k0_0_0 x_w_xs_a7k0_0_1 x_w_xs_a7k0_0_2 w_ys_a7k0_0 k_w_ys_a7k0_0 x_w_ys_a7k0_0_0 x_w_ys_a7k0_0_1 x_w_ys_a7k0_0_2 h0 n0 v U'.heap L ∧ FrameEnd U o U' L ({ frames := 0, cells := 0, slots := 0, locals := 0 } : Room).cells ({ frames := 0, cells := 0, slots := 0, locals := 0 } : Room).slots) := by
  refine MetFree.of_bodySF (plainFor_of_name own_pn1) hisR ?_
  intro p e s m args below meth c s₁ Bd hml0 hP hK
  obtain ⟨rfl, hZ, hh⟩ := hP
  have hx := Bd.exec
  have hby := Bd.bytes
  have hml : c.maxLocals = 7 := hml0
  have hown : s.vm.findClass "com/example/wideberth/wideberth/maximin/Triangle" = some m.cls := findClass_of_methodNamed Bd.named
  have hnm := (name_of_methodNamed Bd.named Bd.method).1
  have X0 : Stand p l e ({ frames := 0, cells := 0, slots := 0, locals := 0 } : Room) s m #[(.ref a7k0_0), (.int (0 : Int32)), (.double d7k0_2), (.double d7k0_3)] below meth c s₁ [] 0 0 := Stand.of_body Bd
  have e0 : s₁.heap = h0 := by rw [← hh, Bd.state]; rfl
  have N0 := Fr.nil n0
  have Zr : h0.size ≤ h0.size := Nat.le_refl _
  have pre0 : ∀ t, Steps p.tables e below (s₁.setTop (mkF m 0 #[.val (.ref a7k0_0), .val (.int (0 : Int32)), .val (.double d7k0_2), .second, .val (.double d7k0_3), .second, .unset] [])) t → Steps p.tables e below (s₁.setTop (entryFrame m #[(.ref a7k0_0), (.int (0 : Int32)), (.double d7k0_2), (.double d7k0_3)] 7)) t := fun t k => castTop (own_ef7k0 m a7k0_0 d7k0_2 d7k0_3) k
  obtain ⟨Tn7k0_1, Xn7k0_1, en7k0_1, stn7k0_1⟩ := getF X0 hx hZ hown (host := "") (Or.inl (hw _ (List.mem_of_getElem? (i := 21) rfl))) Via.refl e0 F_xs_a7k0_0 (g := (mkF m 8 #[.val (.ref a7k0_0), .val (.int (0 : Int32)), .val (.double d7k0_2), .second, .val (.double d7k0_3), .second, .val (.int (1 : Int32))] [(.ref a7k0_0)])) rfl rfl (hb hby own_d7_8)
  have Oo7k0_2 := V_w_xs_a7k0_0
  obtain ⟨clo7k0_2, Aro7k0_2, qo7k0_2, So7k0_2, No7k0_2, Ho7k0_2, Go7k0_2⟩ := Oo7k0_2
  have hino7k0_2 : ¬ ((1 : Int32) < 0 ∨ clo7k0_2.slots.size ≤ ((1 : Int32)).toNatClampNeg) := inb_of So7k0_2 ⟨by decide, by decide⟩
  have hato7k0_2 : clo7k0_2.slots[((1 : Int32)).toNatClampNeg]? = some (.double x_w_xs_a7k0_0_1) := Ho7k0_2.at hino7k0_2 rfl
  obtain ⟨Tn7k0_3, Xn7k0_3, en7k0_3, stn7k0_3⟩ := getF Xn7k0_1 hx hZ hown (host := "") (Or.inl (hw _ (List.mem_of_getElem? (i := 21) rfl))) Via.refl en7k0_1 F_xs_a7k0_0 (g := (mkF m 15 #[.val (.ref a7k0_0), .val (.int (0 : Int32)), .val (.double d7k0_2), .second, .val (.double d7k0_3), .second, .val (.int (1 : Int32))] [(.ref a7k0_0), (.double x_w_xs_a7k0_0_1)])) rfl rfl (hb hby own_d7_15)
  have Oo7k0_4 := V_w_xs_a7k0_0
  obtain ⟨clo7k0_4, Aro7k0_4, qo7k0_4, So7k0_4, No7k0_4, Ho7k0_4, Go7k0_4⟩ := Oo7k0_4
  have hino7k0_4 : ¬ ((0 : Int32) < 0 ∨ clo7k0_4.slots.size ≤ ((0 : Int32)).toNatClampNeg) := inb_of So7k0_4 ⟨by decide, by decide⟩
  have hato7k0_4 : clo7k0_4.slots[((0 : Int32)).toNatClampNeg]? = some (.double x_w_xs_a7k0_0_0) := Ho7k0_4.at hino7k0_4 rfl
  obtain ⟨Tn7k0_5, Xn7k0_5, en7k0_5, stn7k0_5⟩ := getF Xn7k0_3 hx hZ hown (host := "") (Or.inl (hw _ (List.mem_of_getElem? (i := 23) rfl))) Via.refl en7k0_3 F_ys_a7k0_0 (g := (mkF m 24 #[.val (.ref a7k0_0), .val (.int (0 : Int32)), .val (.double d7k0_2), .second, .val (.double d7k0_3), .second, .val (.int (1 : Int32))] [(.ref a7k0_0), (.double d7k0_3), (.double (FP.dsub x_w_xs_a7k0_0_1 x_w_xs_a7k0_0_0))])) rfl rfl (hb hby own_d7_24)
  have Oo7k0_6 := V_w_ys_a7k0_0
  obtain ⟨clo7k0_6, Aro7k0_6, qo7k0_6, So7k0_6, No7k0_6, Ho7k0_6, Go7k0_6⟩ := Oo7k0_6
  have hino7k0_6 : ¬ ((0 : Int32) < 0 ∨ clo7k0_6.slots.size ≤ ((0 : Int32)).toNatClampNeg) := inb_of So7k0_6 ⟨by decide, by decide⟩
  have hato7k0_6 : clo7k0_6.slots[((0 : Int32)).toNatClampNeg]? = some (.double x_w_ys_a7k0_0_0) := Ho7k0_6.at hino7k0_6 rfl
  obtain ⟨Tn7k0_7, Xn7k0_7, en7k0_7, stn7k0_7⟩ := getF Xn7k0_5 hx hZ hown (host := "") (Or.inl (hw _ (List.mem_of_getElem? (i := 23) rfl))) Via.refl en7k0_5 F_ys_a7k0_0 (g := (mkF m 32 #[.val (.ref a7k0_0), .val (.int (0 : Int32)), .val (.double d7k0_2), .second, .val (.double d7k0_3), .second, .val (.int (1 : Int32))] [(.ref a7k0_0), (.double (FP.dmul (FP.dsub x_w_xs_a7k0_0_1 x_w_xs_a7k0_0_0) (FP.dsub d7k0_3 x_w_ys_a7k0_0_0)))])) rfl rfl (hb hby own_d7_32)
  have Oo7k0_8 := V_w_ys_a7k0_0
  obtain ⟨clo7k0_8, Aro7k0_8, qo7k0_8, So7k0_8, No7k0_8, Ho7k0_8, Go7k0_8⟩ := Oo7k0_8
  have hino7k0_8 : ¬ ((1 : Int32) < 0 ∨ clo7k0_8.slots.size ≤ ((1 : Int32)).toNatClampNeg) := inb_of So7k0_8 ⟨by decide, by decide⟩
  have hato7k0_8 : clo7k0_8.slots[((1 : Int32)).toNatClampNeg]? = some (.double x_w_ys_a7k0_0_1) := Ho7k0_8.at hino7k0_8 rfl
  obtain ⟨Tn7k0_9, Xn7k0_9, en7k0_9, stn7k0_9⟩ := getF Xn7k0_7 hx hZ hown (host := "") (Or.inl (hw _ (List.mem_of_getElem? (i := 23) rfl))) Via.refl en7k0_7 F_ys_a7k0_0 (g := (mkF m 39 #[.val (.ref a7k0_0), .val (.int (0 : Int32)), .val (.double d7k0_2), .second, .val (.double d7k0_3), .second, .val (.int (1 : Int32))] [(.ref a7k0_0), (.double x_w_ys_a7k0_0_1), (.double (FP.dmul (FP.dsub x_w_xs_a7k0_0_1 x_w_xs_a7k0_0_0) (FP.dsub d7k0_3 x_w_ys_a7k0_0_0)))])) rfl rfl (hb hby own_d7_39)
  have Oo7k0_10 := V_w_ys_a7k0_0
  obtain ⟨clo7k0_10, Aro7k0_10, qo7k0_10, So7k0_10, No7k0_10, Ho7k0_10, Go7k0_10⟩ := Oo7k0_10
  have hino7k0_10 : ¬ ((0 : Int32) < 0 ∨ clo7k0_10.slots.size ≤ ((0 : Int32)).toNatClampNeg) := inb_of So7k0_10 ⟨by decide, by decide⟩
  have hato7k0_10 : clo7k0_10.slots[((0 : Int32)).toNatClampNeg]? = some (.double x_w_ys_a7k0_0_0) := Ho7k0_10.at hino7k0_10 rfl
  obtain ⟨Tn7k0_11, Xn7k0_11, en7k0_11, stn7k0_11⟩ := getF Xn7k0_9 hx hZ hown (host := "") (Or.inl (hw _ (List.mem_of_getElem? (i := 21) rfl))) Via.refl en7k0_9 F_xs_a7k0_0 (g := (mkF m 47 #[.val (.ref a7k0_0), .val (.int (0 : Int32)), .val (.double d7k0_2), .second, .val (.double d7k0_3), .second, .val (.int (1 : Int32))] [(.ref a7k0_0), (.double d7k0_2), (.double (FP.dsub x_w_ys_a7k0_0_1 x_w_ys_a7k0_0_0)), (.double (FP.dmul (FP.dsub x_w_xs_a7k0_0_1 x_w_xs_a7k0_0_0) (FP.dsub d7k0_3 x_w_ys_a7k0_0_0)))])) rfl rfl (hb hby own_d7_47)
  have Oo7k0_12 := V_w_xs_a7k0_0
  obtain ⟨clo7k0_12, Aro7k0_12, qo7k0_12, So7k0_12, No7k0_12, Ho7k0_12, Go7k0_12⟩ := Oo7k0_12
  have hino7k0_12 : ¬ ((0 : Int32) < 0 ∨ clo7k0_12.slots.size ≤ ((0 : Int32)).toNatClampNeg) := inb_of So7k0_12 ⟨by decide, by decide⟩
  have hato7k0_12 : clo7k0_12.slots[((0 : Int32)).toNatClampNeg]? = some (.double x_w_xs_a7k0_0_0) := Ho7k0_12.at hino7k0_12 rfl
  obtain ⟨fs, hr, hrun, hended, hW, hsame⟩ := Xn7k0_11.leave (v := some (.double (FP.dsub (FP.dmul (FP.dsub x_w_xs_a7k0_0_1 x_w_xs_a7k0_0_0) (FP.dsub d7k0_3 x_w_ys_a7k0_0_0)) (FP.dmul (FP.dsub x_w_ys_a7k0_0_1 x_w_ys_a7k0_0_0) (FP.dsub d7k0_2 x_w_xs_a7k0_0_0))))) (fun h => by rw [Bd.returns] at h; cases h)
  refine ⟨_, _, pre0 _ (?_), hrun, hended, _, _, rfl, ?_, ⟨_, rfl⟩, hW, hsame.mono (by decide) (by decide)⟩
  · show Steps p.tables e below (s₁.setTop (mkF m 0 #[.val (.ref a7k0_0), .val (.int (0 : Int32)), .val (.double d7k0_2), .second, .val (.double d7k0_3), .second, .unset] [])) _
    refine XS.iloadN X0.here hx rfl (hb hby own_d7_0) rfl ?_
    show Steps p.tables e below (s₁.setTop (mkF m 1 #[.val (.ref a7k0_0), .val (.int (0 : Int32)), .val (.double d7k0_2), .second, .val (.double d7k0_3), .second, .unset] [(.int (0 : Int32))])) _
    refine XS.iconst X0.here hx rfl (hb hby own_d7_1) ?_
    show Steps p.tables e below (s₁.setTop (mkF m 2 #[.val (.ref a7k0_0), .val (.int (0 : Int32)), .val (.double d7k0_2), .second, .val (.double d7k0_3), .second, .unset] [(.int (1 : Int32)), (.int (0 : Int32))])) _
    refine XS.iadd X0.here hx rfl (hb hby own_d7_2) rfl ?_
    show Steps p.tables e below (s₁.setTop (mkF m 3 #[.val (.ref a7k0_0), .val (.int (0 : Int32)), .val (.double d7k0_2), .second, .val (.double d7k0_3), .second, .unset] [(.int (1 : Int32))])) _
    refine XS.iconst X0.here hx rfl (hb hby own_d7_3) ?_
    show Steps p.tables e below (s₁.setTop (mkF m 4 #[.val (.ref a7k0_0), .val (.int (0 : Int32)), .val (.double d7k0_2), .second, .val (.double d7k0_3), .second, .unset] [(.int (3 : Int32)), (.int (1 : Int32))])) _
    refine XS.irem X0.here hx rfl (hb hby own_d7_4) rfl (by decide) ?_
    show Steps p.tables e below (s₁.setTop (mkF m 5 #[.val (.ref a7k0_0), .val (.int (0 : Int32)), .val (.double d7k0_2), .second, .val (.double d7k0_3), .second, .unset] [(.int (1 : Int32))])) _
    refine XS.istore X0.here hx rfl (hb hby own_d7_5) rfl (l' := #[.val (.ref a7k0_0), .val (.int (0 : Int32)), .val (.double d7k0_2), .second, .val (.double d7k0_3), .second, .val (.int (1 : Int32))]) rfl ?_
    show Steps p.tables e below (s₁.setTop (mkF m 7 #[.val (.ref a7k0_0), .val (.int (0 : Int32)), .val (.double d7k0_2), .second, .val (.double d7k0_3), .second, .val (.int (1 : Int32))] [])) _
    refine XS.aloadN X0.here hx rfl (hb hby own_d7_7) rfl rfl ?_
    show Steps p.tables e below (s₁.setTop (mkF m 8 #[.val (.ref a7k0_0), .val (.int (0 : Int32)), .val (.double d7k0_2), .second, .val (.double d7k0_3), .second, .val (.int (1 : Int32))] [(.ref a7k0_0)])) _
    refine stn7k0_1 _ ?_
    show Steps p.tables e below (Tn7k0_1.setTop (mkF m 11 #[.val (.ref a7k0_0), .val (.int (0 : Int32)), .val (.double d7k0_2), .second, .val (.double d7k0_3), .second, .val (.int (1 : Int32))] [(.ref w_xs_a7k0_0)])) _
    refine XS.iload Xn7k0_1.here hx rfl (hb hby own_d7_11) rfl ?_
    show Steps p.tables e below (Tn7k0_1.setTop (mkF m 13 #[.val (.ref a7k0_0), .val (.int (0 : Int32)), .val (.double d7k0_2), .second, .val (.double d7k0_3), .second, .val (.int (1 : Int32))] [(.int (1 : Int32)), (.ref w_xs_a7k0_0)])) _
    refine Xn7k0_1.daload hx (j := (1 : Int32)) (v := (.double x_w_xs_a7k0_0_1)) (by rw [en7k0_1]; exact Aro7k0_2.1) (State.isArrayOf_alike hZ.alike Aro7k0_2.2.1) Aro7k0_2.2.2 hino7k0_2 hato7k0_2 (g := (mkF m 13 #[.val (.ref a7k0_0), .val (.int (0 : Int32)), .val (.double d7k0_2), .second, .val (.double d7k0_3), .second, .val (.int (1 : Int32))] [(.int (1 : Int32)), (.ref w_xs_a7k0_0)])) rfl rfl (hb hby own_d7_13) _ ?_
    show Steps p.tables e below (Tn7k0_1.setTop (mkF m 14 #[.val (.ref a7k0_0), .val (.int (0 : Int32)), .val (.double d7k0_2), .second, .val (.double d7k0_3), .second, .val (.int (1 : Int32))] [(.double x_w_xs_a7k0_0_1)])) _
    refine XS.aloadN Xn7k0_1.here hx rfl (hb hby own_d7_14) rfl rfl ?_
    show Steps p.tables e below (Tn7k0_1.setTop (mkF m 15 #[.val (.ref a7k0_0), .val (.int (0 : Int32)), .val (.double d7k0_2), .second, .val (.double d7k0_3), .second, .val (.int (1 : Int32))] [(.ref a7k0_0), (.double x_w_xs_a7k0_0_1)])) _
    refine stn7k0_3 _ ?_
    show Steps p.tables e below (Tn7k0_3.setTop (mkF m 18 #[.val (.ref a7k0_0), .val (.int (0 : Int32)), .val (.double d7k0_2), .second, .val (.double d7k0_3), .second, .val (.int (1 : Int32))] [(.ref w_xs_a7k0_0), (.double x_w_xs_a7k0_0_1)])) _
    refine XS.iloadN Xn7k0_3.here hx rfl (hb hby own_d7_18) rfl ?_
    show Steps p.tables e below (Tn7k0_3.setTop (mkF m 19 #[.val (.ref a7k0_0), .val (.int (0 : Int32)), .val (.double d7k0_2), .second, .val (.double d7k0_3), .second, .val (.int (1 : Int32))] [(.int (0 : Int32)), (.ref w_xs_a7k0_0), (.double x_w_xs_a7k0_0_1)])) _
    refine Xn7k0_3.daload hx (j := (0 : Int32)) (v := (.double x_w_xs_a7k0_0_0)) (by rw [en7k0_3]; exact Aro7k0_4.1) (State.isArrayOf_alike hZ.alike Aro7k0_4.2.1) Aro7k0_4.2.2 hino7k0_4 hato7k0_4 (g := (mkF m 19 #[.val (.ref a7k0_0), .val (.int (0 : Int32)), .val (.double d7k0_2), .second, .val (.double d7k0_3), .second, .val (.int (1 : Int32))] [(.int (0 : Int32)), (.ref w_xs_a7k0_0), (.double x_w_xs_a7k0_0_1)])) rfl rfl (hb hby own_d7_19) _ ?_
    show Steps p.tables e below (Tn7k0_3.setTop (mkF m 20 #[.val (.ref a7k0_0), .val (.int (0 : Int32)), .val (.double d7k0_2), .second, .val (.double d7k0_3), .second, .val (.int (1 : Int32))] [(.double x_w_xs_a7k0_0_0), (.double x_w_xs_a7k0_0_1)])) _
    refine XS.dsubS Xn7k0_3.here hx rfl (hb hby own_d7_20) rfl nn20 rfl ?_
    show Steps p.tables e below (Tn7k0_3.setTop (mkF m 21 #[.val (.ref a7k0_0), .val (.int (0 : Int32)), .val (.double d7k0_2), .second, .val (.double d7k0_3), .second, .val (.int (1 : Int32))] [(.double (FP.dsub x_w_xs_a7k0_0_1 x_w_xs_a7k0_0_0))])) _
    refine XS.dload Xn7k0_3.here hx rfl (hb hby own_d7_21) rfl ?_
    show Steps p.tables e below (Tn7k0_3.setTop (mkF m 23 #[.val (.ref a7k0_0), .val (.int (0 : Int32)), .val (.double d7k0_2), .second, .val (.double d7k0_3), .second, .val (.int (1 : Int32))] [(.double d7k0_3), (.double (FP.dsub x_w_xs_a7k0_0_1 x_w_xs_a7k0_0_0))])) _
    refine XS.aloadN Xn7k0_3.here hx rfl (hb hby own_d7_23) rfl rfl ?_
    show Steps p.tables e below (Tn7k0_3.setTop (mkF m 24 #[.val (.ref a7k0_0), .val (.int (0 : Int32)), .val (.double d7k0_2), .second, .val (.double d7k0_3), .second, .val (.int (1 : Int32))] [(.ref a7k0_0), (.double d7k0_3), (.double (FP.dsub x_w_xs_a7k0_0_1 x_w_xs_a7k0_0_0))])) _
    refine stn7k0_5 _ ?_
    show Steps p.tables e below (Tn7k0_5.setTop (mkF m 27 #[.val (.ref a7k0_0), .val (.int (0 : Int32)), .val (.double d7k0_2), .second, .val (.double d7k0_3), .second, .val (.int (1 : Int32))] [(.ref w_ys_a7k0_0), (.double d7k0_3), (.double (FP.dsub x_w_xs_a7k0_0_1 x_w_xs_a7k0_0_0))])) _
    refine XS.iloadN Xn7k0_5.here hx rfl (hb hby own_d7_27) rfl ?_
    show Steps p.tables e below (Tn7k0_5.setTop (mkF m 28 #[.val (.ref a7k0_0), .val (.int (0 : Int32)), .val (.double d7k0_2), .second, .val (.double d7k0_3), .second, .val (.int (1 : Int32))] [(.int (0 : Int32)), (.ref w_ys_a7k0_0), (.double d7k0_3), (.double (FP.dsub x_w_xs_a7k0_0_1 x_w_xs_a7k0_0_0))])) _
    refine Xn7k0_5.daload hx (j := (0 : Int32)) (v := (.double x_w_ys_a7k0_0_0)) (by rw [en7k0_5]; exact Aro7k0_6.1) (State.isArrayOf_alike hZ.alike Aro7k0_6.2.1) Aro7k0_6.2.2 hino7k0_6 hato7k0_6 (g := (mkF m 28 #[.val (.ref a7k0_0), .val (.int (0 : Int32)), .val (.double d7k0_2), .second, .val (.double d7k0_3), .second, .val (.int (1 : Int32))] [(.int (0 : Int32)), (.ref w_ys_a7k0_0), (.double d7k0_3), (.double (FP.dsub x_w_xs_a7k0_0_1 x_w_xs_a7k0_0_0))])) rfl rfl (hb hby own_d7_28) _ ?_
    show Steps p.tables e below (Tn7k0_5.setTop (mkF m 29 #[.val (.ref a7k0_0), .val (.int (0 : Int32)), .val (.double d7k0_2), .second, .val (.double d7k0_3), .second, .val (.int (1 : Int32))] [(.double x_w_ys_a7k0_0_0), (.double d7k0_3), (.double (FP.dsub x_w_xs_a7k0_0_1 x_w_xs_a7k0_0_0))])) _
    refine XS.dsubS Xn7k0_5.here hx rfl (hb hby own_d7_29) rfl nn29 rfl ?_
    show Steps p.tables e below (Tn7k0_5.setTop (mkF m 30 #[.val (.ref a7k0_0), .val (.int (0 : Int32)), .val (.double d7k0_2), .second, .val (.double d7k0_3), .second, .val (.int (1 : Int32))] [(.double (FP.dsub d7k0_3 x_w_ys_a7k0_0_0)), (.double (FP.dsub x_w_xs_a7k0_0_1 x_w_xs_a7k0_0_0))])) _
    refine XS.dmulS Xn7k0_5.here hx rfl (hb hby own_d7_30) rfl nn30 rfl ?_
    show Steps p.tables e below (Tn7k0_5.setTop (mkF m 31 #[.val (.ref a7k0_0), .val (.int (0 : Int32)), .val (.double d7k0_2), .second, .val (.double d7k0_3), .second, .val (.int (1 : Int32))] [(.double (FP.dmul (FP.dsub x_w_xs_a7k0_0_1 x_w_xs_a7k0_0_0) (FP.dsub d7k0_3 x_w_ys_a7k0_0_0)))])) _
    refine XS.aloadN Xn7k0_5.here hx rfl (hb hby own_d7_31) rfl rfl ?_
    show Steps p.tables e below (Tn7k0_5.setTop (mkF m 32 #[.val (.ref a7k0_0), .val (.int (0 : Int32)), .val (.double d7k0_2), .second, .val (.double d7k0_3), .second, .val (.int (1 : Int32))] [(.ref a7k0_0), (.double (FP.dmul (FP.dsub x_w_xs_a7k0_0_1 x_w_xs_a7k0_0_0) (FP.dsub d7k0_3 x_w_ys_a7k0_0_0)))])) _
    refine stn7k0_7 _ ?_
    show Steps p.tables e below (Tn7k0_7.setTop (mkF m 35 #[.val (.ref a7k0_0), .val (.int (0 : Int32)), .val (.double d7k0_2), .second, .val (.double d7k0_3), .second, .val (.int (1 : Int32))] [(.ref w_ys_a7k0_0), (.double (FP.dmul (FP.dsub x_w_xs_a7k0_0_1 x_w_xs_a7k0_0_0) (FP.dsub d7k0_3 x_w_ys_a7k0_0_0)))])) _
    refine XS.iload Xn7k0_7.here hx rfl (hb hby own_d7_35) rfl ?_
    show Steps p.tables e below (Tn7k0_7.setTop (mkF m 37 #[.val (.ref a7k0_0), .val (.int (0 : Int32)), .val (.double d7k0_2), .second, .val (.double d7k0_3), .second, .val (.int (1 : Int32))] [(.int (1 : Int32)), (.ref w_ys_a7k0_0), (.double (FP.dmul (FP.dsub x_w_xs_a7k0_0_1 x_w_xs_a7k0_0_0) (FP.dsub d7k0_3 x_w_ys_a7k0_0_0)))])) _
    refine Xn7k0_7.daload hx (j := (1 : Int32)) (v := (.double x_w_ys_a7k0_0_1)) (by rw [en7k0_7]; exact Aro7k0_8.1) (State.isArrayOf_alike hZ.alike Aro7k0_8.2.1) Aro7k0_8.2.2 hino7k0_8 hato7k0_8 (g := (mkF m 37 #[.val (.ref a7k0_0), .val (.int (0 : Int32)), .val (.double d7k0_2), .second, .val (.double d7k0_3), .second, .val (.int (1 : Int32))] [(.int (1 : Int32)), (.ref w_ys_a7k0_0), (.double (FP.dmul (FP.dsub x_w_xs_a7k0_0_1 x_w_xs_a7k0_0_0) (FP.dsub d7k0_3 x_w_ys_a7k0_0_0)))])) rfl rfl (hb hby own_d7_37) _ ?_
    show Steps p.tables e below (Tn7k0_7.setTop (mkF m 38 #[.val (.ref a7k0_0), .val (.int (0 : Int32)), .val (.double d7k0_2), .second, .val (.double d7k0_3), .second, .val (.int (1 : Int32))] [(.double x_w_ys_a7k0_0_1), (.double (FP.dmul (FP.dsub x_w_xs_a7k0_0_1 x_w_xs_a7k0_0_0) (FP.dsub d7k0_3 x_w_ys_a7k0_0_0)))])) _
    refine XS.aloadN Xn7k0_7.here hx rfl (hb hby own_d7_38) rfl rfl ?_
    show Steps p.tables e below (Tn7k0_7.setTop (mkF m 39 #[.val (.ref a7k0_0), .val (.int (0 : Int32)), .val (.double d7k0_2), .second, .val (.double d7k0_3), .second, .val (.int (1 : Int32))] [(.ref a7k0_0), (.double x_w_ys_a7k0_0_1), (.double (FP.dmul (FP.dsub x_w_xs_a7k0_0_1 x_w_xs_a7k0_0_0) (FP.dsub d7k0_3 x_w_ys_a7k0_0_0)))])) _
    refine stn7k0_9 _ ?_
    show Steps p.tables e below (Tn7k0_9.setTop (mkF m 42 #[.val (.ref a7k0_0), .val (.int (0 : Int32)), .val (.double d7k0_2), .second, .val (.double d7k0_3), .second, .val (.int (1 : Int32))] [(.ref w_ys_a7k0_0), (.double x_w_ys_a7k0_0_1), (.double (FP.dmul (FP.dsub x_w_xs_a7k0_0_1 x_w_xs_a7k0_0_0) (FP.dsub d7k0_3 x_w_ys_a7k0_0_0)))])) _
    refine XS.iloadN Xn7k0_9.here hx rfl (hb hby own_d7_42) rfl ?_
    show Steps p.tables e below (Tn7k0_9.setTop (mkF m 43 #[.val (.ref a7k0_0), .val (.int (0 : Int32)), .val (.double d7k0_2), .second, .val (.double d7k0_3), .second, .val (.int (1 : Int32))] [(.int (0 : Int32)), (.ref w_ys_a7k0_0), (.double x_w_ys_a7k0_0_1), (.double (FP.dmul (FP.dsub x_w_xs_a7k0_0_1 x_w_xs_a7k0_0_0) (FP.dsub d7k0_3 x_w_ys_a7k0_0_0)))])) _
    refine Xn7k0_9.daload hx (j := (0 : Int32)) (v := (.double x_w_ys_a7k0_0_0)) (by rw [en7k0_9]; exact Aro7k0_10.1) (State.isArrayOf_alike hZ.alike Aro7k0_10.2.1) Aro7k0_10.2.2 hino7k0_10 hato7k0_10 (g := (mkF m 43 #[.val (.ref a7k0_0), .val (.int (0 : Int32)), .val (.double d7k0_2), .second, .val (.double d7k0_3), .second, .val (.int (1 : Int32))] [(.int (0 : Int32)), (.ref w_ys_a7k0_0), (.double x_w_ys_a7k0_0_1), (.double (FP.dmul (FP.dsub x_w_xs_a7k0_0_1 x_w_xs_a7k0_0_0) (FP.dsub d7k0_3 x_w_ys_a7k0_0_0)))])) rfl rfl (hb hby own_d7_43) _ ?_
    show Steps p.tables e below (Tn7k0_9.setTop (mkF m 44 #[.val (.ref a7k0_0), .val (.int (0 : Int32)), .val (.double d7k0_2), .second, .val (.double d7k0_3), .second, .val (.int (1 : Int32))] [(.double x_w_ys_a7k0_0_0), (.double x_w_ys_a7k0_0_1), (.double (FP.dmul (FP.dsub x_w_xs_a7k0_0_1 x_w_xs_a7k0_0_0) (FP.dsub d7k0_3 x_w_ys_a7k0_0_0)))])) _
    refine XS.dsubS Xn7k0_9.here hx rfl (hb hby own_d7_44) rfl nn44 rfl ?_
    show Steps p.tables e below (Tn7k0_9.setTop (mkF m 45 #[.val (.ref a7k0_0), .val (.int (0 : Int32)), .val (.double d7k0_2), .second, .val (.double d7k0_3), .second, .val (.int (1 : Int32))] [(.double (FP.dsub x_w_ys_a7k0_0_1 x_w_ys_a7k0_0_0)), (.double (FP.dmul (FP.dsub x_w_xs_a7k0_0_1 x_w_xs_a7k0_0_0) (FP.dsub d7k0_3 x_w_ys_a7k0_0_0)))])) _
    refine XS.dloadN Xn7k0_9.here hx rfl (hb hby own_d7_45) rfl ?_
    show Steps p.tables e below (Tn7k0_9.setTop (mkF m 46 #[.val (.ref a7k0_0), .val (.int (0 : Int32)), .val (.double d7k0_2), .second, .val (.double d7k0_3), .second, .val (.int (1 : Int32))] [(.double d7k0_2), (.double (FP.dsub x_w_ys_a7k0_0_1 x_w_ys_a7k0_0_0)), (.double (FP.dmul (FP.dsub x_w_xs_a7k0_0_1 x_w_xs_a7k0_0_0) (FP.dsub d7k0_3 x_w_ys_a7k0_0_0)))])) _
    refine XS.aloadN Xn7k0_9.here hx rfl (hb hby own_d7_46) rfl rfl ?_
    show Steps p.tables e below (Tn7k0_9.setTop (mkF m 47 #[.val (.ref a7k0_0), .val (.int (0 : Int32)), .val (.double d7k0_2), .second, .val (.double d7k0_3), .second, .val (.int (1 : Int32))] [(.ref a7k0_0), (.double d7k0_2), (.double (FP.dsub x_w_ys_a7k0_0_1 x_w_ys_a7k0_0_0)), (.double (FP.dmul (FP.dsub x_w_xs_a7k0_0_1 x_w_xs_a7k0_0_0) (FP.dsub d7k0_3 x_w_ys_a7k0_0_0)))])) _
    refine stn7k0_11 _ ?_
    show Steps p.tables e below (Tn7k0_11.setTop (mkF m 50 #[.val (.ref a7k0_0), .val (.int (0 : Int32)), .val (.double d7k0_2), .second, .val (.double d7k0_3), .second, .val (.int (1 : Int32))] [(.ref w_xs_a7k0_0), (.double d7k0_2), (.double (FP.dsub x_w_ys_a7k0_0_1 x_w_ys_a7k0_0_0)), (.double (FP.dmul (FP.dsub x_w_xs_a7k0_0_1 x_w_xs_a7k0_0_0) (FP.dsub d7k0_3 x_w_ys_a7k0_0_0)))])) _
    refine XS.iloadN Xn7k0_11.here hx rfl (hb hby own_d7_50) rfl ?_
    show Steps p.tables e below (Tn7k0_11.setTop (mkF m 51 #[.val (.ref a7k0_0), .val (.int (0 : Int32)), .val (.double d7k0_2), .second, .val (.double d7k0_3), .second, .val (.int (1 : Int32))] [(.int (0 : Int32)), (.ref w_xs_a7k0_0), (.double d7k0_2), (.double (FP.dsub x_w_ys_a7k0_0_1 x_w_ys_a7k0_0_0)), (.double (FP.dmul (FP.dsub x_w_xs_a7k0_0_1 x_w_xs_a7k0_0_0) (FP.dsub d7k0_3 x_w_ys_a7k0_0_0)))])) _
    refine Xn7k0_11.daload hx (j := (0 : Int32)) (v := (.double x_w_xs_a7k0_0_0)) (by rw [en7k0_11]; exact Aro7k0_12.1) (State.isArrayOf_alike hZ.alike Aro7k0_12.2.1) Aro7k0_12.2.2 hino7k0_12 hato7k0_12 (g := (mkF m 51 #[.val (.ref a7k0_0), .val (.int (0 : Int32)), .val (.double d7k0_2), .second, .val (.double d7k0_3), .second, .val (.int (1 : Int32))] [(.int (0 : Int32)), (.ref w_xs_a7k0_0), (.double d7k0_2), (.double (FP.dsub x_w_ys_a7k0_0_1 x_w_ys_a7k0_0_0)), (.double (FP.dmul (FP.dsub x_w_xs_a7k0_0_1 x_w_xs_a7k0_0_0) (FP.dsub d7k0_3 x_w_ys_a7k0_0_0)))])) rfl rfl (hb hby own_d7_51) _ ?_
    show Steps p.tables e below (Tn7k0_11.setTop (mkF m 52 #[.val (.ref a7k0_0), .val (.int (0 : Int32)), .val (.double d7k0_2), .second, .val (.double d7k0_3), .second, .val (.int (1 : Int32))] [(.double x_w_xs_a7k0_0_0), (.double d7k0_2), (.double (FP.dsub x_w_ys_a7k0_0_1 x_w_ys_a7k0_0_0)), (.double (FP.dmul (FP.dsub x_w_xs_a7k0_0_1 x_w_xs_a7k0_0_0) (FP.dsub d7k0_3 x_w_ys_a7k0_0_0)))])) _
    refine XS.dsubS Xn7k0_11.here hx rfl (hb hby own_d7_52) rfl nn52 rfl ?_
    show Steps p.tables e below (Tn7k0_11.setTop (mkF m 53 #[.val (.ref a7k0_0), .val (.int (0 : Int32)), .val (.double d7k0_2), .second, .val (.double d7k0_3), .second, .val (.int (1 : Int32))] [(.double (FP.dsub d7k0_2 x_w_xs_a7k0_0_0)), (.double (FP.dsub x_w_ys_a7k0_0_1 x_w_ys_a7k0_0_0)), (.double (FP.dmul (FP.dsub x_w_xs_a7k0_0_1 x_w_xs_a7k0_0_0) (FP.dsub d7k0_3 x_w_ys_a7k0_0_0)))])) _
    refine XS.dmulS Xn7k0_11.here hx rfl (hb hby own_d7_53) rfl nn53 rfl ?_
    show Steps p.tables e below (Tn7k0_11.setTop (mkF m 54 #[.val (.ref a7k0_0), .val (.int (0 : Int32)), .val (.double d7k0_2), .second, .val (.double d7k0_3), .second, .val (.int (1 : Int32))] [(.double (FP.dmul (FP.dsub x_w_ys_a7k0_0_1 x_w_ys_a7k0_0_0) (FP.dsub d7k0_2 x_w_xs_a7k0_0_0))), (.double (FP.dmul (FP.dsub x_w_xs_a7k0_0_1 x_w_xs_a7k0_0_0) (FP.dsub d7k0_3 x_w_ys_a7k0_0_0)))])) _
    refine XS.dsubS Xn7k0_11.here hx rfl (hb hby own_d7_54) rfl nn54 rfl ?_
    show Steps p.tables e below (Tn7k0_11.setTop (mkF m 55 #[.val (.ref a7k0_0), .val (.int (0 : Int32)), .val (.double d7k0_2), .second, .val (.double d7k0_3), .second, .val (.int (1 : Int32))] [(.double (FP.dsub (FP.dmul (FP.dsub x_w_xs_a7k0_0_1 x_w_xs_a7k0_0_0) (FP.dsub d7k0_3 x_w_ys_a7k0_0_0)) (FP.dmul (FP.dsub x_w_ys_a7k0_0_1 x_w_ys_a7k0_0_0) (FP.dsub d7k0_2 x_w_xs_a7k0_0_0))))])) _
    exact own_retD Xn7k0_11 hx Bd.returns (hb hby own_d7_55) hr
  · show own_Q7k0 Z a7k0_0 d7k0_2 d7k0_3 w_xs_a7k0_0 k_w_xs_a7k0_0 x_w_xs_a7k0_0_0 x_w_xs_a7k0_0_1 x_w_xs_a7k0_0_2 w_ys_a7k0_0 k_w_ys_a7k0_0 x_w_ys_a7k0_0_0 x_w_ys_a7k0_0_1 x_w_ys_a7k0_0_2 h0 n0 _ Tn7k0_11.heap _
    rw [en7k0_11]
    exact ⟨rfl, N0, rfl⟩
def own_r7k1_0 (d7k1_2 : UInt64) (d7k1_3 : UInt64) (x_w_xs_a7k1_0_1 : UInt64) (x_w_xs_a7k1_0_2 : UInt64) (x_w_ys_a7k1_0_1 : UInt64) (x_w_ys_a7k1_0_2 : UInt64) : UInt64 := (FP.dsub (FP.dmul (FP.dsub x_w_xs_a7k1_0_2 x_w_xs_a7k1_0_1) (FP.dsub d7k1_3 x_w_ys_a7k1_0_1)) (FP.dmul (FP.dsub x_w_ys_a7k1_0_2 x_w_ys_a7k1_0_1) (FP.dsub d7k1_2 x_w_xs_a7k1_0_1)))
theorem own_ef7k1 (m : MethodId) (a7k1_0 : Addr) (d7k1_2 : UInt64) (d7k1_3 : UInt64) : entryFrame m #[(.ref a7k1_0), (.int (1 : Int32)), (.double d7k1_2), (.double d7k1_3)] 7 = mkF m 0 #[.val (.ref a7k1_0), .val (.int (1 : Int32)), .val (.double d7k1_2), .second, .val (.double d7k1_3), .second, .unset] [] := by first | (simp [entryFrame, mkF, argsToLocals, Value.category]; done) | rfl
def own_Q7k1 (Z : State) (a7k1_0 : Addr) (d7k1_2 : UInt64) (d7k1_3 : UInt64) (w_xs_a7k1_0 : Addr) (k_w_xs_a7k1_0 : ClassId) (x_w_xs_a7k1_0_0 : UInt64) (x_w_xs_a7k1_0_1 : UInt64) (x_w_xs_a7k1_0_2 : UInt64) (w_ys_a7k1_0 : Addr) (k_w_ys_a7k1_0 : ClassId) (x_w_ys_a7k1_0_0 : UInt64) (x_w_ys_a7k1_0_1 : UInt64) (x_w_ys_a7k1_0_2 : UInt64) (h0 : Heap) (n0 : Nat) (v : Option Value) (h : Heap) (L : List Loc) : Prop := v = some (.double (own_r7k1_0 d7k1_2 d7k1_3 x_w_xs_a7k1_0_1 x_w_xs_a7k1_0_2 x_w_ys_a7k1_0_1 x_w_ys_a7k1_0_2)) ∧ Fr n0 L ∧ h = h0
set_option maxRecDepth 65536 in
set_option maxHeartbeats 40000000 in
theorem own_rm7k1 (l : Launch) (Z : State) (a0 : Array Value) (hw : ∀ d ∈ tables_1, d.before a0 Z = true) (ws : List Jvm.Cond) (a7k1_0 : Addr) (d7k1_2 : UInt64) (d7k1_3 : UInt64) (w_xs_a7k1_0 : Addr) (k_w_xs_a7k1_0 : ClassId) (x_w_xs_a7k1_0_0 : UInt64) (x_w_xs_a7k1_0_1 : UInt64) (x_w_xs_a7k1_0_2 : UInt64) (w_ys_a7k1_0 : Addr) (k_w_ys_a7k1_0 : ClassId) (x_w_ys_a7k1_0_0 : UInt64) (x_w_ys_a7k1_0_1 : UInt64) (x_w_ys_a7k1_0_2 : UInt64) (h0 : Heap) (n0 : Nat) (Z0 : n0 ≤ h0.size) (F_xs_a7k1_0 : Fld Z h0 a7k1_0 "com/example/wideberth/wideberth/maximin/Triangle" "xs" "[D" (.ref w_xs_a7k1_0)) (V_w_xs_a7k1_0 : Arv Z h0 w_xs_a7k1_0 k_w_xs_a7k1_0 .double (3 : Int32) [(.double x_w_xs_a7k1_0_0), (.double x_w_xs_a7k1_0_1), (.double x_w_xs_a7k1_0_2)] (.double (0 : UInt64))) (F_ys_a7k1_0 : Fld Z h0 a7k1_0 "com/example/wideberth/wideberth/maximin/Triangle" "ys" "[D" (.ref w_ys_a7k1_0)) (V_w_ys_a7k1_0 : Arv Z h0 w_ys_a7k1_0 k_w_ys_a7k1_0 .double (3 : Int32) [(.double x_w_ys_a7k1_0_0), (.double x_w_ys_a7k1_0_1), (.double x_w_ys_a7k1_0_2)] (.double (0 : UInt64))) (nn20 : NoNaN64 (FP.dsub x_w_xs_a7k1_0_2 x_w_xs_a7k1_0_1)) (nn29 : NoNaN64 (FP.dsub d7k1_3 x_w_ys_a7k1_0_1)) (nn30 : NoNaN64 (FP.dmul (FP.dsub x_w_xs_a7k1_0_2 x_w_xs_a7k1_0_1) (FP.dsub d7k1_3 x_w_ys_a7k1_0_1))) (nn44 : NoNaN64 (FP.dsub x_w_ys_a7k1_0_2 x_w_ys_a7k1_0_1)) (nn52 : NoNaN64 (FP.dsub d7k1_2 x_w_xs_a7k1_0_1)) (nn53 : NoNaN64 (FP.dmul (FP.dsub x_w_ys_a7k1_0_2 x_w_ys_a7k1_0_1) (FP.dsub d7k1_2 x_w_xs_a7k1_0_1))) (nn54 : NoNaN64 (FP.dsub (FP.dmul (FP.dsub x_w_xs_a7k1_0_2 x_w_xs_a7k1_0_1) (FP.dsub d7k1_3 x_w_ys_a7k1_0_1)) (FP.dmul (FP.dsub x_w_ys_a7k1_0_2 x_w_ys_a7k1_0_1) (FP.dsub d7k1_2 x_w_xs_a7k1_0_1)))) :
    MetFree l (⟨"com/example/wideberth/wideberth/maximin/Triangle", "side", "(IDD)D"⟩ : MethodName) (head1 (Jvm.Cond.code (⟨"com/example/wideberth/wideberth/maximin/Triangle", "side", "(IDD)D"⟩ : MethodName) prog_23_method_8_code 7 (some .double) :: ws) ({ frames := 0, cells := 0, slots := 0, locals := 0 } : Room)) (fun a U => a = #[(.ref a7k1_0), (.int (1 : Int32)), (.double d7k1_2), (.double d7k1_3)] ∧ Z.Warmed39 U.vm ∧ U.heap = h0) (fun _ _ _ _ _ => True) (fun _ U o U' => ∃ v L, o = .returned v ∧ own_Q7k1 Z a7k1_0 d7k1_2 d7k1_3 w_xs_a7k1_0 k_w_xs_a7k1_0 x_w_xs_a7k1_0_0 x_w_xs_a7k1_0_1 x_w_xs_a7k1_0_2 w_ys_a7k1_0 k_w_ys_a7k1_0 x_w_ys_a7k1_0_0 x_w_ys_a7k1_0_1 x_w_ys_a7k1_0_2 h0 n0 v U'.heap L ∧ FrameEnd U o U' L ({ frames := 0, cells := 0, slots := 0, locals := 0 } : Room).cells ({ frames := 0, cells := 0, slots := 0, locals := 0 } : Room).slots) := by
  refine MetFree.of_bodySF (plainFor_of_name own_pn1) hisR ?_
  intro p e s m args below meth c s₁ Bd hml0 hP hK
  obtain ⟨rfl, hZ, hh⟩ := hP
  have hx := Bd.exec
  have hby := Bd.bytes
  have hml : c.maxLocals = 7 := hml0
  have hown : s.vm.findClass "com/example/wideberth/wideberth/maximin/Triangle" = some m.cls := findClass_of_methodNamed Bd.named
  have hnm := (name_of_methodNamed Bd.named Bd.method).1
  have X0 : Stand p l e ({ frames := 0, cells := 0, slots := 0, locals := 0 } : Room) s m #[(.ref a7k1_0), (.int (1 : Int32)), (.double d7k1_2), (.double d7k1_3)] below meth c s₁ [] 0 0 := Stand.of_body Bd
  have e0 : s₁.heap = h0 := by rw [← hh, Bd.state]; rfl
  have N0 := Fr.nil n0
  have Zr : h0.size ≤ h0.size := Nat.le_refl _
  have pre0 : ∀ t, Steps p.tables e below (s₁.setTop (mkF m 0 #[.val (.ref a7k1_0), .val (.int (1 : Int32)), .val (.double d7k1_2), .second, .val (.double d7k1_3), .second, .unset] [])) t → Steps p.tables e below (s₁.setTop (entryFrame m #[(.ref a7k1_0), (.int (1 : Int32)), (.double d7k1_2), (.double d7k1_3)] 7)) t := fun t k => castTop (own_ef7k1 m a7k1_0 d7k1_2 d7k1_3) k
  obtain ⟨Tn7k1_1, Xn7k1_1, en7k1_1, stn7k1_1⟩ := getF X0 hx hZ hown (host := "") (Or.inl (hw _ (List.mem_of_getElem? (i := 21) rfl))) Via.refl e0 F_xs_a7k1_0 (g := (mkF m 8 #[.val (.ref a7k1_0), .val (.int (1 : Int32)), .val (.double d7k1_2), .second, .val (.double d7k1_3), .second, .val (.int (2 : Int32))] [(.ref a7k1_0)])) rfl rfl (hb hby own_d7_8)
  have Oo7k1_2 := V_w_xs_a7k1_0
  obtain ⟨clo7k1_2, Aro7k1_2, qo7k1_2, So7k1_2, No7k1_2, Ho7k1_2, Go7k1_2⟩ := Oo7k1_2
  have hino7k1_2 : ¬ ((2 : Int32) < 0 ∨ clo7k1_2.slots.size ≤ ((2 : Int32)).toNatClampNeg) := inb_of So7k1_2 ⟨by decide, by decide⟩
  have hato7k1_2 : clo7k1_2.slots[((2 : Int32)).toNatClampNeg]? = some (.double x_w_xs_a7k1_0_2) := Ho7k1_2.at hino7k1_2 rfl
  obtain ⟨Tn7k1_3, Xn7k1_3, en7k1_3, stn7k1_3⟩ := getF Xn7k1_1 hx hZ hown (host := "") (Or.inl (hw _ (List.mem_of_getElem? (i := 21) rfl))) Via.refl en7k1_1 F_xs_a7k1_0 (g := (mkF m 15 #[.val (.ref a7k1_0), .val (.int (1 : Int32)), .val (.double d7k1_2), .second, .val (.double d7k1_3), .second, .val (.int (2 : Int32))] [(.ref a7k1_0), (.double x_w_xs_a7k1_0_2)])) rfl rfl (hb hby own_d7_15)
  have Oo7k1_4 := V_w_xs_a7k1_0
  obtain ⟨clo7k1_4, Aro7k1_4, qo7k1_4, So7k1_4, No7k1_4, Ho7k1_4, Go7k1_4⟩ := Oo7k1_4
  have hino7k1_4 : ¬ ((1 : Int32) < 0 ∨ clo7k1_4.slots.size ≤ ((1 : Int32)).toNatClampNeg) := inb_of So7k1_4 ⟨by decide, by decide⟩
  have hato7k1_4 : clo7k1_4.slots[((1 : Int32)).toNatClampNeg]? = some (.double x_w_xs_a7k1_0_1) := Ho7k1_4.at hino7k1_4 rfl
  obtain ⟨Tn7k1_5, Xn7k1_5, en7k1_5, stn7k1_5⟩ := getF Xn7k1_3 hx hZ hown (host := "") (Or.inl (hw _ (List.mem_of_getElem? (i := 23) rfl))) Via.refl en7k1_3 F_ys_a7k1_0 (g := (mkF m 24 #[.val (.ref a7k1_0), .val (.int (1 : Int32)), .val (.double d7k1_2), .second, .val (.double d7k1_3), .second, .val (.int (2 : Int32))] [(.ref a7k1_0), (.double d7k1_3), (.double (FP.dsub x_w_xs_a7k1_0_2 x_w_xs_a7k1_0_1))])) rfl rfl (hb hby own_d7_24)
  have Oo7k1_6 := V_w_ys_a7k1_0
  obtain ⟨clo7k1_6, Aro7k1_6, qo7k1_6, So7k1_6, No7k1_6, Ho7k1_6, Go7k1_6⟩ := Oo7k1_6
  have hino7k1_6 : ¬ ((1 : Int32) < 0 ∨ clo7k1_6.slots.size ≤ ((1 : Int32)).toNatClampNeg) := inb_of So7k1_6 ⟨by decide, by decide⟩
  have hato7k1_6 : clo7k1_6.slots[((1 : Int32)).toNatClampNeg]? = some (.double x_w_ys_a7k1_0_1) := Ho7k1_6.at hino7k1_6 rfl
  obtain ⟨Tn7k1_7, Xn7k1_7, en7k1_7, stn7k1_7⟩ := getF Xn7k1_5 hx hZ hown (host := "") (Or.inl (hw _ (List.mem_of_getElem? (i := 23) rfl))) Via.refl en7k1_5 F_ys_a7k1_0 (g := (mkF m 32 #[.val (.ref a7k1_0), .val (.int (1 : Int32)), .val (.double d7k1_2), .second, .val (.double d7k1_3), .second, .val (.int (2 : Int32))] [(.ref a7k1_0), (.double (FP.dmul (FP.dsub x_w_xs_a7k1_0_2 x_w_xs_a7k1_0_1) (FP.dsub d7k1_3 x_w_ys_a7k1_0_1)))])) rfl rfl (hb hby own_d7_32)
  have Oo7k1_8 := V_w_ys_a7k1_0
  obtain ⟨clo7k1_8, Aro7k1_8, qo7k1_8, So7k1_8, No7k1_8, Ho7k1_8, Go7k1_8⟩ := Oo7k1_8
  have hino7k1_8 : ¬ ((2 : Int32) < 0 ∨ clo7k1_8.slots.size ≤ ((2 : Int32)).toNatClampNeg) := inb_of So7k1_8 ⟨by decide, by decide⟩
  have hato7k1_8 : clo7k1_8.slots[((2 : Int32)).toNatClampNeg]? = some (.double x_w_ys_a7k1_0_2) := Ho7k1_8.at hino7k1_8 rfl
  obtain ⟨Tn7k1_9, Xn7k1_9, en7k1_9, stn7k1_9⟩ := getF Xn7k1_7 hx hZ hown (host := "") (Or.inl (hw _ (List.mem_of_getElem? (i := 23) rfl))) Via.refl en7k1_7 F_ys_a7k1_0 (g := (mkF m 39 #[.val (.ref a7k1_0), .val (.int (1 : Int32)), .val (.double d7k1_2), .second, .val (.double d7k1_3), .second, .val (.int (2 : Int32))] [(.ref a7k1_0), (.double x_w_ys_a7k1_0_2), (.double (FP.dmul (FP.dsub x_w_xs_a7k1_0_2 x_w_xs_a7k1_0_1) (FP.dsub d7k1_3 x_w_ys_a7k1_0_1)))])) rfl rfl (hb hby own_d7_39)
  have Oo7k1_10 := V_w_ys_a7k1_0
  obtain ⟨clo7k1_10, Aro7k1_10, qo7k1_10, So7k1_10, No7k1_10, Ho7k1_10, Go7k1_10⟩ := Oo7k1_10
  have hino7k1_10 : ¬ ((1 : Int32) < 0 ∨ clo7k1_10.slots.size ≤ ((1 : Int32)).toNatClampNeg) := inb_of So7k1_10 ⟨by decide, by decide⟩
  have hato7k1_10 : clo7k1_10.slots[((1 : Int32)).toNatClampNeg]? = some (.double x_w_ys_a7k1_0_1) := Ho7k1_10.at hino7k1_10 rfl
  obtain ⟨Tn7k1_11, Xn7k1_11, en7k1_11, stn7k1_11⟩ := getF Xn7k1_9 hx hZ hown (host := "") (Or.inl (hw _ (List.mem_of_getElem? (i := 21) rfl))) Via.refl en7k1_9 F_xs_a7k1_0 (g := (mkF m 47 #[.val (.ref a7k1_0), .val (.int (1 : Int32)), .val (.double d7k1_2), .second, .val (.double d7k1_3), .second, .val (.int (2 : Int32))] [(.ref a7k1_0), (.double d7k1_2), (.double (FP.dsub x_w_ys_a7k1_0_2 x_w_ys_a7k1_0_1)), (.double (FP.dmul (FP.dsub x_w_xs_a7k1_0_2 x_w_xs_a7k1_0_1) (FP.dsub d7k1_3 x_w_ys_a7k1_0_1)))])) rfl rfl (hb hby own_d7_47)
  have Oo7k1_12 := V_w_xs_a7k1_0
  obtain ⟨clo7k1_12, Aro7k1_12, qo7k1_12, So7k1_12, No7k1_12, Ho7k1_12, Go7k1_12⟩ := Oo7k1_12
  have hino7k1_12 : ¬ ((1 : Int32) < 0 ∨ clo7k1_12.slots.size ≤ ((1 : Int32)).toNatClampNeg) := inb_of So7k1_12 ⟨by decide, by decide⟩
  have hato7k1_12 : clo7k1_12.slots[((1 : Int32)).toNatClampNeg]? = some (.double x_w_xs_a7k1_0_1) := Ho7k1_12.at hino7k1_12 rfl
  obtain ⟨fs, hr, hrun, hended, hW, hsame⟩ := Xn7k1_11.leave (v := some (.double (FP.dsub (FP.dmul (FP.dsub x_w_xs_a7k1_0_2 x_w_xs_a7k1_0_1) (FP.dsub d7k1_3 x_w_ys_a7k1_0_1)) (FP.dmul (FP.dsub x_w_ys_a7k1_0_2 x_w_ys_a7k1_0_1) (FP.dsub d7k1_2 x_w_xs_a7k1_0_1))))) (fun h => by rw [Bd.returns] at h; cases h)
  refine ⟨_, _, pre0 _ (?_), hrun, hended, _, _, rfl, ?_, ⟨_, rfl⟩, hW, hsame.mono (by decide) (by decide)⟩
  · show Steps p.tables e below (s₁.setTop (mkF m 0 #[.val (.ref a7k1_0), .val (.int (1 : Int32)), .val (.double d7k1_2), .second, .val (.double d7k1_3), .second, .unset] [])) _
    refine XS.iloadN X0.here hx rfl (hb hby own_d7_0) rfl ?_
    show Steps p.tables e below (s₁.setTop (mkF m 1 #[.val (.ref a7k1_0), .val (.int (1 : Int32)), .val (.double d7k1_2), .second, .val (.double d7k1_3), .second, .unset] [(.int (1 : Int32))])) _
    refine XS.iconst X0.here hx rfl (hb hby own_d7_1) ?_
    show Steps p.tables e below (s₁.setTop (mkF m 2 #[.val (.ref a7k1_0), .val (.int (1 : Int32)), .val (.double d7k1_2), .second, .val (.double d7k1_3), .second, .unset] [(.int (1 : Int32)), (.int (1 : Int32))])) _
    refine XS.iadd X0.here hx rfl (hb hby own_d7_2) rfl ?_
    show Steps p.tables e below (s₁.setTop (mkF m 3 #[.val (.ref a7k1_0), .val (.int (1 : Int32)), .val (.double d7k1_2), .second, .val (.double d7k1_3), .second, .unset] [(.int (2 : Int32))])) _
    refine XS.iconst X0.here hx rfl (hb hby own_d7_3) ?_
    show Steps p.tables e below (s₁.setTop (mkF m 4 #[.val (.ref a7k1_0), .val (.int (1 : Int32)), .val (.double d7k1_2), .second, .val (.double d7k1_3), .second, .unset] [(.int (3 : Int32)), (.int (2 : Int32))])) _
    refine XS.irem X0.here hx rfl (hb hby own_d7_4) rfl (by decide) ?_
    show Steps p.tables e below (s₁.setTop (mkF m 5 #[.val (.ref a7k1_0), .val (.int (1 : Int32)), .val (.double d7k1_2), .second, .val (.double d7k1_3), .second, .unset] [(.int (2 : Int32))])) _
    refine XS.istore X0.here hx rfl (hb hby own_d7_5) rfl (l' := #[.val (.ref a7k1_0), .val (.int (1 : Int32)), .val (.double d7k1_2), .second, .val (.double d7k1_3), .second, .val (.int (2 : Int32))]) rfl ?_
    show Steps p.tables e below (s₁.setTop (mkF m 7 #[.val (.ref a7k1_0), .val (.int (1 : Int32)), .val (.double d7k1_2), .second, .val (.double d7k1_3), .second, .val (.int (2 : Int32))] [])) _
    refine XS.aloadN X0.here hx rfl (hb hby own_d7_7) rfl rfl ?_
    show Steps p.tables e below (s₁.setTop (mkF m 8 #[.val (.ref a7k1_0), .val (.int (1 : Int32)), .val (.double d7k1_2), .second, .val (.double d7k1_3), .second, .val (.int (2 : Int32))] [(.ref a7k1_0)])) _
    refine stn7k1_1 _ ?_
    show Steps p.tables e below (Tn7k1_1.setTop (mkF m 11 #[.val (.ref a7k1_0), .val (.int (1 : Int32)), .val (.double d7k1_2), .second, .val (.double d7k1_3), .second, .val (.int (2 : Int32))] [(.ref w_xs_a7k1_0)])) _
    refine XS.iload Xn7k1_1.here hx rfl (hb hby own_d7_11) rfl ?_
    show Steps p.tables e below (Tn7k1_1.setTop (mkF m 13 #[.val (.ref a7k1_0), .val (.int (1 : Int32)), .val (.double d7k1_2), .second, .val (.double d7k1_3), .second, .val (.int (2 : Int32))] [(.int (2 : Int32)), (.ref w_xs_a7k1_0)])) _
    refine Xn7k1_1.daload hx (j := (2 : Int32)) (v := (.double x_w_xs_a7k1_0_2)) (by rw [en7k1_1]; exact Aro7k1_2.1) (State.isArrayOf_alike hZ.alike Aro7k1_2.2.1) Aro7k1_2.2.2 hino7k1_2 hato7k1_2 (g := (mkF m 13 #[.val (.ref a7k1_0), .val (.int (1 : Int32)), .val (.double d7k1_2), .second, .val (.double d7k1_3), .second, .val (.int (2 : Int32))] [(.int (2 : Int32)), (.ref w_xs_a7k1_0)])) rfl rfl (hb hby own_d7_13) _ ?_
    show Steps p.tables e below (Tn7k1_1.setTop (mkF m 14 #[.val (.ref a7k1_0), .val (.int (1 : Int32)), .val (.double d7k1_2), .second, .val (.double d7k1_3), .second, .val (.int (2 : Int32))] [(.double x_w_xs_a7k1_0_2)])) _
    refine XS.aloadN Xn7k1_1.here hx rfl (hb hby own_d7_14) rfl rfl ?_
    show Steps p.tables e below (Tn7k1_1.setTop (mkF m 15 #[.val (.ref a7k1_0), .val (.int (1 : Int32)), .val (.double d7k1_2), .second, .val (.double d7k1_3), .second, .val (.int (2 : Int32))] [(.ref a7k1_0), (.double x_w_xs_a7k1_0_2)])) _
    refine stn7k1_3 _ ?_
    show Steps p.tables e below (Tn7k1_3.setTop (mkF m 18 #[.val (.ref a7k1_0), .val (.int (1 : Int32)), .val (.double d7k1_2), .second, .val (.double d7k1_3), .second, .val (.int (2 : Int32))] [(.ref w_xs_a7k1_0), (.double x_w_xs_a7k1_0_2)])) _
    refine XS.iloadN Xn7k1_3.here hx rfl (hb hby own_d7_18) rfl ?_
    show Steps p.tables e below (Tn7k1_3.setTop (mkF m 19 #[.val (.ref a7k1_0), .val (.int (1 : Int32)), .val (.double d7k1_2), .second, .val (.double d7k1_3), .second, .val (.int (2 : Int32))] [(.int (1 : Int32)), (.ref w_xs_a7k1_0), (.double x_w_xs_a7k1_0_2)])) _
    refine Xn7k1_3.daload hx (j := (1 : Int32)) (v := (.double x_w_xs_a7k1_0_1)) (by rw [en7k1_3]; exact Aro7k1_4.1) (State.isArrayOf_alike hZ.alike Aro7k1_4.2.1) Aro7k1_4.2.2 hino7k1_4 hato7k1_4 (g := (mkF m 19 #[.val (.ref a7k1_0), .val (.int (1 : Int32)), .val (.double d7k1_2), .second, .val (.double d7k1_3), .second, .val (.int (2 : Int32))] [(.int (1 : Int32)), (.ref w_xs_a7k1_0), (.double x_w_xs_a7k1_0_2)])) rfl rfl (hb hby own_d7_19) _ ?_
    show Steps p.tables e below (Tn7k1_3.setTop (mkF m 20 #[.val (.ref a7k1_0), .val (.int (1 : Int32)), .val (.double d7k1_2), .second, .val (.double d7k1_3), .second, .val (.int (2 : Int32))] [(.double x_w_xs_a7k1_0_1), (.double x_w_xs_a7k1_0_2)])) _
    refine XS.dsubS Xn7k1_3.here hx rfl (hb hby own_d7_20) rfl nn20 rfl ?_
    show Steps p.tables e below (Tn7k1_3.setTop (mkF m 21 #[.val (.ref a7k1_0), .val (.int (1 : Int32)), .val (.double d7k1_2), .second, .val (.double d7k1_3), .second, .val (.int (2 : Int32))] [(.double (FP.dsub x_w_xs_a7k1_0_2 x_w_xs_a7k1_0_1))])) _
    refine XS.dload Xn7k1_3.here hx rfl (hb hby own_d7_21) rfl ?_
    show Steps p.tables e below (Tn7k1_3.setTop (mkF m 23 #[.val (.ref a7k1_0), .val (.int (1 : Int32)), .val (.double d7k1_2), .second, .val (.double d7k1_3), .second, .val (.int (2 : Int32))] [(.double d7k1_3), (.double (FP.dsub x_w_xs_a7k1_0_2 x_w_xs_a7k1_0_1))])) _
    refine XS.aloadN Xn7k1_3.here hx rfl (hb hby own_d7_23) rfl rfl ?_
    show Steps p.tables e below (Tn7k1_3.setTop (mkF m 24 #[.val (.ref a7k1_0), .val (.int (1 : Int32)), .val (.double d7k1_2), .second, .val (.double d7k1_3), .second, .val (.int (2 : Int32))] [(.ref a7k1_0), (.double d7k1_3), (.double (FP.dsub x_w_xs_a7k1_0_2 x_w_xs_a7k1_0_1))])) _
    refine stn7k1_5 _ ?_
    show Steps p.tables e below (Tn7k1_5.setTop (mkF m 27 #[.val (.ref a7k1_0), .val (.int (1 : Int32)), .val (.double d7k1_2), .second, .val (.double d7k1_3), .second, .val (.int (2 : Int32))] [(.ref w_ys_a7k1_0), (.double d7k1_3), (.double (FP.dsub x_w_xs_a7k1_0_2 x_w_xs_a7k1_0_1))])) _
    refine XS.iloadN Xn7k1_5.here hx rfl (hb hby own_d7_27) rfl ?_
    show Steps p.tables e below (Tn7k1_5.setTop (mkF m 28 #[.val (.ref a7k1_0), .val (.int (1 : Int32)), .val (.double d7k1_2), .second, .val (.double d7k1_3), .second, .val (.int (2 : Int32))] [(.int (1 : Int32)), (.ref w_ys_a7k1_0), (.double d7k1_3), (.double (FP.dsub x_w_xs_a7k1_0_2 x_w_xs_a7k1_0_1))])) _
    refine Xn7k1_5.daload hx (j := (1 : Int32)) (v := (.double x_w_ys_a7k1_0_1)) (by rw [en7k1_5]; exact Aro7k1_6.1) (State.isArrayOf_alike hZ.alike Aro7k1_6.2.1) Aro7k1_6.2.2 hino7k1_6 hato7k1_6 (g := (mkF m 28 #[.val (.ref a7k1_0), .val (.int (1 : Int32)), .val (.double d7k1_2), .second, .val (.double d7k1_3), .second, .val (.int (2 : Int32))] [(.int (1 : Int32)), (.ref w_ys_a7k1_0), (.double d7k1_3), (.double (FP.dsub x_w_xs_a7k1_0_2 x_w_xs_a7k1_0_1))])) rfl rfl (hb hby own_d7_28) _ ?_
    show Steps p.tables e below (Tn7k1_5.setTop (mkF m 29 #[.val (.ref a7k1_0), .val (.int (1 : Int32)), .val (.double d7k1_2), .second, .val (.double d7k1_3), .second, .val (.int (2 : Int32))] [(.double x_w_ys_a7k1_0_1), (.double d7k1_3), (.double (FP.dsub x_w_xs_a7k1_0_2 x_w_xs_a7k1_0_1))])) _
    refine XS.dsubS Xn7k1_5.here hx rfl (hb hby own_d7_29) rfl nn29 rfl ?_
    show Steps p.tables e below (Tn7k1_5.setTop (mkF m 30 #[.val (.ref a7k1_0), .val (.int (1 : Int32)), .val (.double d7k1_2), .second, .val (.double d7k1_3), .second, .val (.int (2 : Int32))] [(.double (FP.dsub d7k1_3 x_w_ys_a7k1_0_1)), (.double (FP.dsub x_w_xs_a7k1_0_2 x_w_xs_a7k1_0_1))])) _
    refine XS.dmulS Xn7k1_5.here hx rfl (hb hby own_d7_30) rfl nn30 rfl ?_
    show Steps p.tables e below (Tn7k1_5.setTop (mkF m 31 #[.val (.ref a7k1_0), .val (.int (1 : Int32)), .val (.double d7k1_2), .second, .val (.double d7k1_3), .second, .val (.int (2 : Int32))] [(.double (FP.dmul (FP.dsub x_w_xs_a7k1_0_2 x_w_xs_a7k1_0_1) (FP.dsub d7k1_3 x_w_ys_a7k1_0_1)))])) _
    refine XS.aloadN Xn7k1_5.here hx rfl (hb hby own_d7_31) rfl rfl ?_
    show Steps p.tables e below (Tn7k1_5.setTop (mkF m 32 #[.val (.ref a7k1_0), .val (.int (1 : Int32)), .val (.double d7k1_2), .second, .val (.double d7k1_3), .second, .val (.int (2 : Int32))] [(.ref a7k1_0), (.double (FP.dmul (FP.dsub x_w_xs_a7k1_0_2 x_w_xs_a7k1_0_1) (FP.dsub d7k1_3 x_w_ys_a7k1_0_1)))])) _
    refine stn7k1_7 _ ?_
    show Steps p.tables e below (Tn7k1_7.setTop (mkF m 35 #[.val (.ref a7k1_0), .val (.int (1 : Int32)), .val (.double d7k1_2), .second, .val (.double d7k1_3), .second, .val (.int (2 : Int32))] [(.ref w_ys_a7k1_0), (.double (FP.dmul (FP.dsub x_w_xs_a7k1_0_2 x_w_xs_a7k1_0_1) (FP.dsub d7k1_3 x_w_ys_a7k1_0_1)))])) _
    refine XS.iload Xn7k1_7.here hx rfl (hb hby own_d7_35) rfl ?_
    show Steps p.tables e below (Tn7k1_7.setTop (mkF m 37 #[.val (.ref a7k1_0), .val (.int (1 : Int32)), .val (.double d7k1_2), .second, .val (.double d7k1_3), .second, .val (.int (2 : Int32))] [(.int (2 : Int32)), (.ref w_ys_a7k1_0), (.double (FP.dmul (FP.dsub x_w_xs_a7k1_0_2 x_w_xs_a7k1_0_1) (FP.dsub d7k1_3 x_w_ys_a7k1_0_1)))])) _
    refine Xn7k1_7.daload hx (j := (2 : Int32)) (v := (.double x_w_ys_a7k1_0_2)) (by rw [en7k1_7]; exact Aro7k1_8.1) (State.isArrayOf_alike hZ.alike Aro7k1_8.2.1) Aro7k1_8.2.2 hino7k1_8 hato7k1_8 (g := (mkF m 37 #[.val (.ref a7k1_0), .val (.int (1 : Int32)), .val (.double d7k1_2), .second, .val (.double d7k1_3), .second, .val (.int (2 : Int32))] [(.int (2 : Int32)), (.ref w_ys_a7k1_0), (.double (FP.dmul (FP.dsub x_w_xs_a7k1_0_2 x_w_xs_a7k1_0_1) (FP.dsub d7k1_3 x_w_ys_a7k1_0_1)))])) rfl rfl (hb hby own_d7_37) _ ?_
    show Steps p.tables e below (Tn7k1_7.setTop (mkF m 38 #[.val (.ref a7k1_0), .val (.int (1 : Int32)), .val (.double d7k1_2), .second, .val (.double d7k1_3), .second, .val (.int (2 : Int32))] [(.double x_w_ys_a7k1_0_2), (.double (FP.dmul (FP.dsub x_w_xs_a7k1_0_2 x_w_xs_a7k1_0_1) (FP.dsub d7k1_3 x_w_ys_a7k1_0_1)))])) _
    refine XS.aloadN Xn7k1_7.here hx rfl (hb hby own_d7_38) rfl rfl ?_
    show Steps p.tables e below (Tn7k1_7.setTop (mkF m 39 #[.val (.ref a7k1_0), .val (.int (1 : Int32)), .val (.double d7k1_2), .second, .val (.double d7k1_3), .second, .val (.int (2 : Int32))] [(.ref a7k1_0), (.double x_w_ys_a7k1_0_2), (.double (FP.dmul (FP.dsub x_w_xs_a7k1_0_2 x_w_xs_a7k1_0_1) (FP.dsub d7k1_3 x_w_ys_a7k1_0_1)))])) _
    refine stn7k1_9 _ ?_
    show Steps p.tables e below (Tn7k1_9.setTop (mkF m 42 #[.val (.ref a7k1_0), .val (.int (1 : Int32)), .val (.double d7k1_2), .second, .val (.double d7k1_3), .second, .val (.int (2 : Int32))] [(.ref w_ys_a7k1_0), (.double x_w_ys_a7k1_0_2), (.double (FP.dmul (FP.dsub x_w_xs_a7k1_0_2 x_w_xs_a7k1_0_1) (FP.dsub d7k1_3 x_w_ys_a7k1_0_1)))])) _
    refine XS.iloadN Xn7k1_9.here hx rfl (hb hby own_d7_42) rfl ?_
    show Steps p.tables e below (Tn7k1_9.setTop (mkF m 43 #[.val (.ref a7k1_0), .val (.int (1 : Int32)), .val (.double d7k1_2), .second, .val (.double d7k1_3), .second, .val (.int (2 : Int32))] [(.int (1 : Int32)), (.ref w_ys_a7k1_0), (.double x_w_ys_a7k1_0_2), (.double (FP.dmul (FP.dsub x_w_xs_a7k1_0_2 x_w_xs_a7k1_0_1) (FP.dsub d7k1_3 x_w_ys_a7k1_0_1)))])) _
    refine Xn7k1_9.daload hx (j := (1 : Int32)) (v := (.double x_w_ys_a7k1_0_1)) (by rw [en7k1_9]; exact Aro7k1_10.1) (State.isArrayOf_alike hZ.alike Aro7k1_10.2.1) Aro7k1_10.2.2 hino7k1_10 hato7k1_10 (g := (mkF m 43 #[.val (.ref a7k1_0), .val (.int (1 : Int32)), .val (.double d7k1_2), .second, .val (.double d7k1_3), .second, .val (.int (2 : Int32))] [(.int (1 : Int32)), (.ref w_ys_a7k1_0), (.double x_w_ys_a7k1_0_2), (.double (FP.dmul (FP.dsub x_w_xs_a7k1_0_2 x_w_xs_a7k1_0_1) (FP.dsub d7k1_3 x_w_ys_a7k1_0_1)))])) rfl rfl (hb hby own_d7_43) _ ?_
    show Steps p.tables e below (Tn7k1_9.setTop (mkF m 44 #[.val (.ref a7k1_0), .val (.int (1 : Int32)), .val (.double d7k1_2), .second, .val (.double d7k1_3), .second, .val (.int (2 : Int32))] [(.double x_w_ys_a7k1_0_1), (.double x_w_ys_a7k1_0_2), (.double (FP.dmul (FP.dsub x_w_xs_a7k1_0_2 x_w_xs_a7k1_0_1) (FP.dsub d7k1_3 x_w_ys_a7k1_0_1)))])) _
    refine XS.dsubS Xn7k1_9.here hx rfl (hb hby own_d7_44) rfl nn44 rfl ?_
    show Steps p.tables e below (Tn7k1_9.setTop (mkF m 45 #[.val (.ref a7k1_0), .val (.int (1 : Int32)), .val (.double d7k1_2), .second, .val (.double d7k1_3), .second, .val (.int (2 : Int32))] [(.double (FP.dsub x_w_ys_a7k1_0_2 x_w_ys_a7k1_0_1)), (.double (FP.dmul (FP.dsub x_w_xs_a7k1_0_2 x_w_xs_a7k1_0_1) (FP.dsub d7k1_3 x_w_ys_a7k1_0_1)))])) _
    refine XS.dloadN Xn7k1_9.here hx rfl (hb hby own_d7_45) rfl ?_
    show Steps p.tables e below (Tn7k1_9.setTop (mkF m 46 #[.val (.ref a7k1_0), .val (.int (1 : Int32)), .val (.double d7k1_2), .second, .val (.double d7k1_3), .second, .val (.int (2 : Int32))] [(.double d7k1_2), (.double (FP.dsub x_w_ys_a7k1_0_2 x_w_ys_a7k1_0_1)), (.double (FP.dmul (FP.dsub x_w_xs_a7k1_0_2 x_w_xs_a7k1_0_1) (FP.dsub d7k1_3 x_w_ys_a7k1_0_1)))])) _
    refine XS.aloadN Xn7k1_9.here hx rfl (hb hby own_d7_46) rfl rfl ?_
    show Steps p.tables e below (Tn7k1_9.setTop (mkF m 47 #[.val (.ref a7k1_0), .val (.int (1 : Int32)), .val (.double d7k1_2), .second, .val (.double d7k1_3), .second, .val (.int (2 : Int32))] [(.ref a7k1_0), (.double d7k1_2), (.double (FP.dsub x_w_ys_a7k1_0_2 x_w_ys_a7k1_0_1)), (.double (FP.dmul (FP.dsub x_w_xs_a7k1_0_2 x_w_xs_a7k1_0_1) (FP.dsub d7k1_3 x_w_ys_a7k1_0_1)))])) _
    refine stn7k1_11 _ ?_
    show Steps p.tables e below (Tn7k1_11.setTop (mkF m 50 #[.val (.ref a7k1_0), .val (.int (1 : Int32)), .val (.double d7k1_2), .second, .val (.double d7k1_3), .second, .val (.int (2 : Int32))] [(.ref w_xs_a7k1_0), (.double d7k1_2), (.double (FP.dsub x_w_ys_a7k1_0_2 x_w_ys_a7k1_0_1)), (.double (FP.dmul (FP.dsub x_w_xs_a7k1_0_2 x_w_xs_a7k1_0_1) (FP.dsub d7k1_3 x_w_ys_a7k1_0_1)))])) _
    refine XS.iloadN Xn7k1_11.here hx rfl (hb hby own_d7_50) rfl ?_
    show Steps p.tables e below (Tn7k1_11.setTop (mkF m 51 #[.val (.ref a7k1_0), .val (.int (1 : Int32)), .val (.double d7k1_2), .second, .val (.double d7k1_3), .second, .val (.int (2 : Int32))] [(.int (1 : Int32)), (.ref w_xs_a7k1_0), (.double d7k1_2), (.double (FP.dsub x_w_ys_a7k1_0_2 x_w_ys_a7k1_0_1)), (.double (FP.dmul (FP.dsub x_w_xs_a7k1_0_2 x_w_xs_a7k1_0_1) (FP.dsub d7k1_3 x_w_ys_a7k1_0_1)))])) _
    refine Xn7k1_11.daload hx (j := (1 : Int32)) (v := (.double x_w_xs_a7k1_0_1)) (by rw [en7k1_11]; exact Aro7k1_12.1) (State.isArrayOf_alike hZ.alike Aro7k1_12.2.1) Aro7k1_12.2.2 hino7k1_12 hato7k1_12 (g := (mkF m 51 #[.val (.ref a7k1_0), .val (.int (1 : Int32)), .val (.double d7k1_2), .second, .val (.double d7k1_3), .second, .val (.int (2 : Int32))] [(.int (1 : Int32)), (.ref w_xs_a7k1_0), (.double d7k1_2), (.double (FP.dsub x_w_ys_a7k1_0_2 x_w_ys_a7k1_0_1)), (.double (FP.dmul (FP.dsub x_w_xs_a7k1_0_2 x_w_xs_a7k1_0_1) (FP.dsub d7k1_3 x_w_ys_a7k1_0_1)))])) rfl rfl (hb hby own_d7_51) _ ?_
    show Steps p.tables e below (Tn7k1_11.setTop (mkF m 52 #[.val (.ref a7k1_0), .val (.int (1 : Int32)), .val (.double d7k1_2), .second, .val (.double d7k1_3), .second, .val (.int (2 : Int32))] [(.double x_w_xs_a7k1_0_1), (.double d7k1_2), (.double (FP.dsub x_w_ys_a7k1_0_2 x_w_ys_a7k1_0_1)), (.double (FP.dmul (FP.dsub x_w_xs_a7k1_0_2 x_w_xs_a7k1_0_1) (FP.dsub d7k1_3 x_w_ys_a7k1_0_1)))])) _
    refine XS.dsubS Xn7k1_11.here hx rfl (hb hby own_d7_52) rfl nn52 rfl ?_
    show Steps p.tables e below (Tn7k1_11.setTop (mkF m 53 #[.val (.ref a7k1_0), .val (.int (1 : Int32)), .val (.double d7k1_2), .second, .val (.double d7k1_3), .second, .val (.int (2 : Int32))] [(.double (FP.dsub d7k1_2 x_w_xs_a7k1_0_1)), (.double (FP.dsub x_w_ys_a7k1_0_2 x_w_ys_a7k1_0_1)), (.double (FP.dmul (FP.dsub x_w_xs_a7k1_0_2 x_w_xs_a7k1_0_1) (FP.dsub d7k1_3 x_w_ys_a7k1_0_1)))])) _
    refine XS.dmulS Xn7k1_11.here hx rfl (hb hby own_d7_53) rfl nn53 rfl ?_
    show Steps p.tables e below (Tn7k1_11.setTop (mkF m 54 #[.val (.ref a7k1_0), .val (.int (1 : Int32)), .val (.double d7k1_2), .second, .val (.double d7k1_3), .second, .val (.int (2 : Int32))] [(.double (FP.dmul (FP.dsub x_w_ys_a7k1_0_2 x_w_ys_a7k1_0_1) (FP.dsub d7k1_2 x_w_xs_a7k1_0_1))), (.double (FP.dmul (FP.dsub x_w_xs_a7k1_0_2 x_w_xs_a7k1_0_1) (FP.dsub d7k1_3 x_w_ys_a7k1_0_1)))])) _
    refine XS.dsubS Xn7k1_11.here hx rfl (hb hby own_d7_54) rfl nn54 rfl ?_
    show Steps p.tables e below (Tn7k1_11.setTop (mkF m 55 #[.val (.ref a7k1_0), .val (.int (1 : Int32)), .val (.double d7k1_2), .second, .val (.double d7k1_3), .second, .val (.int (2 : Int32))] [(.double (FP.dsub (FP.dmul (FP.dsub x_w_xs_a7k1_0_2 x_w_xs_a7k1_0_1) (FP.dsub d7k1_3 x_w_ys_a7k1_0_1)) (FP.dmul (FP.dsub x_w_ys_a7k1_0_2 x_w_ys_a7k1_0_1) (FP.dsub d7k1_2 x_w_xs_a7k1_0_1))))])) _
    exact own_retD Xn7k1_11 hx Bd.returns (hb hby own_d7_55) hr
  · show own_Q7k1 Z a7k1_0 d7k1_2 d7k1_3 w_xs_a7k1_0 k_w_xs_a7k1_0 x_w_xs_a7k1_0_0 x_w_xs_a7k1_0_1 x_w_xs_a7k1_0_2 w_ys_a7k1_0 k_w_ys_a7k1_0 x_w_ys_a7k1_0_0 x_w_ys_a7k1_0_1 x_w_ys_a7k1_0_2 h0 n0 _ Tn7k1_11.heap _
    rw [en7k1_11]
    exact ⟨rfl, N0, rfl⟩
def own_r7k2_0 (d7k2_2 : UInt64) (d7k2_3 : UInt64) (x_w_xs_a7k2_0_0 : UInt64) (x_w_xs_a7k2_0_2 : UInt64) (x_w_ys_a7k2_0_0 : UInt64) (x_w_ys_a7k2_0_2 : UInt64) : UInt64 := (FP.dsub (FP.dmul (FP.dsub x_w_xs_a7k2_0_0 x_w_xs_a7k2_0_2) (FP.dsub d7k2_3 x_w_ys_a7k2_0_2)) (FP.dmul (FP.dsub x_w_ys_a7k2_0_0 x_w_ys_a7k2_0_2) (FP.dsub d7k2_2 x_w_xs_a7k2_0_2)))
theorem own_ef7k2 (m : MethodId) (a7k2_0 : Addr) (d7k2_2 : UInt64) (d7k2_3 : UInt64) : entryFrame m #[(.ref a7k2_0), (.int (2 : Int32)), (.double d7k2_2), (.double d7k2_3)] 7 = mkF m 0 #[.val (.ref a7k2_0), .val (.int (2 : Int32)), .val (.double d7k2_2), .second, .val (.double d7k2_3), .second, .unset] [] := by first | (simp [entryFrame, mkF, argsToLocals, Value.category]; done) | rfl
def own_Q7k2 (Z : State) (a7k2_0 : Addr) (d7k2_2 : UInt64) (d7k2_3 : UInt64) (w_xs_a7k2_0 : Addr) (k_w_xs_a7k2_0 : ClassId) (x_w_xs_a7k2_0_0 : UInt64) (x_w_xs_a7k2_0_1 : UInt64) (x_w_xs_a7k2_0_2 : UInt64) (w_ys_a7k2_0 : Addr) (k_w_ys_a7k2_0 : ClassId) (x_w_ys_a7k2_0_0 : UInt64) (x_w_ys_a7k2_0_1 : UInt64) (x_w_ys_a7k2_0_2 : UInt64) (h0 : Heap) (n0 : Nat) (v : Option Value) (h : Heap) (L : List Loc) : Prop := v = some (.double (own_r7k2_0 d7k2_2 d7k2_3 x_w_xs_a7k2_0_0 x_w_xs_a7k2_0_2 x_w_ys_a7k2_0_0 x_w_ys_a7k2_0_2)) ∧ Fr n0 L ∧ h = h0
set_option maxRecDepth 65536 in
set_option maxHeartbeats 40000000 in
theorem own_rm7k2 (l : Launch) (Z : State) (a0 : Array Value) (hw : ∀ d ∈ tables_1, d.before a0 Z = true) (ws : List Jvm.Cond) (a7k2_0 : Addr) (d7k2_2 : UInt64) (d7k2_3 : UInt64) (w_xs_a7k2_0 : Addr) (k_w_xs_a7k2_0 : ClassId) (x_w_xs_a7k2_0_0 : UInt64) (x_w_xs_a7k2_0_1 : UInt64) (x_w_xs_a7k2_0_2 : UInt64) (w_ys_a7k2_0 : Addr) (k_w_ys_a7k2_0 : ClassId) (x_w_ys_a7k2_0_0 : UInt64) (x_w_ys_a7k2_0_1 : UInt64) (x_w_ys_a7k2_0_2 : UInt64) (h0 : Heap) (n0 : Nat) (Z0 : n0 ≤ h0.size) (F_xs_a7k2_0 : Fld Z h0 a7k2_0 "com/example/wideberth/wideberth/maximin/Triangle" "xs" "[D" (.ref w_xs_a7k2_0)) (V_w_xs_a7k2_0 : Arv Z h0 w_xs_a7k2_0 k_w_xs_a7k2_0 .double (3 : Int32) [(.double x_w_xs_a7k2_0_0), (.double x_w_xs_a7k2_0_1), (.double x_w_xs_a7k2_0_2)] (.double (0 : UInt64))) (F_ys_a7k2_0 : Fld Z h0 a7k2_0 "com/example/wideberth/wideberth/maximin/Triangle" "ys" "[D" (.ref w_ys_a7k2_0)) (V_w_ys_a7k2_0 : Arv Z h0 w_ys_a7k2_0 k_w_ys_a7k2_0 .double (3 : Int32) [(.double x_w_ys_a7k2_0_0), (.double x_w_ys_a7k2_0_1), (.double x_w_ys_a7k2_0_2)] (.double (0 : UInt64))) (nn20 : NoNaN64 (FP.dsub x_w_xs_a7k2_0_0 x_w_xs_a7k2_0_2)) (nn29 : NoNaN64 (FP.dsub d7k2_3 x_w_ys_a7k2_0_2)) (nn30 : NoNaN64 (FP.dmul (FP.dsub x_w_xs_a7k2_0_0 x_w_xs_a7k2_0_2) (FP.dsub d7k2_3 x_w_ys_a7k2_0_2))) (nn44 : NoNaN64 (FP.dsub x_w_ys_a7k2_0_0 x_w_ys_a7k2_0_2)) (nn52 : NoNaN64 (FP.dsub d7k2_2 x_w_xs_a7k2_0_2)) (nn53 : NoNaN64 (FP.dmul (FP.dsub x_w_ys_a7k2_0_0 x_w_ys_a7k2_0_2) (FP.dsub d7k2_2 x_w_xs_a7k2_0_2))) (nn54 : NoNaN64 (FP.dsub (FP.dmul (FP.dsub x_w_xs_a7k2_0_0 x_w_xs_a7k2_0_2) (FP.dsub d7k2_3 x_w_ys_a7k2_0_2)) (FP.dmul (FP.dsub x_w_ys_a7k2_0_0 x_w_ys_a7k2_0_2) (FP.dsub d7k2_2 x_w_xs_a7k2_0_2)))) :
    MetFree l (⟨"com/example/wideberth/wideberth/maximin/Triangle", "side", "(IDD)D"⟩ : MethodName) (head1 (Jvm.Cond.code (⟨"com/example/wideberth/wideberth/maximin/Triangle", "side", "(IDD)D"⟩ : MethodName) prog_23_method_8_code 7 (some .double) :: ws) ({ frames := 0, cells := 0, slots := 0, locals := 0 } : Room)) (fun a U => a = #[(.ref a7k2_0), (.int (2 : Int32)), (.double d7k2_2), (.double d7k2_3)] ∧ Z.Warmed39 U.vm ∧ U.heap = h0) (fun _ _ _ _ _ => True) (fun _ U o U' => ∃ v L, o = .returned v ∧ own_Q7k2 Z a7k2_0 d7k2_2 d7k2_3 w_xs_a7k2_0 k_w_xs_a7k2_0 x_w_xs_a7k2_0_0 x_w_xs_a7k2_0_1 x_w_xs_a7k2_0_2 w_ys_a7k2_0 k_w_ys_a7k2_0 x_w_ys_a7k2_0_0 x_w_ys_a7k2_0_1 x_w_ys_a7k2_0_2 h0 n0 v U'.heap L ∧ FrameEnd U o U' L ({ frames := 0, cells := 0, slots := 0, locals := 0 } : Room).cells ({ frames := 0, cells := 0, slots := 0, locals := 0 } : Room).slots) := by
  refine MetFree.of_bodySF (plainFor_of_name own_pn1) hisR ?_
  intro p e s m args below meth c s₁ Bd hml0 hP hK
  obtain ⟨rfl, hZ, hh⟩ := hP
  have hx := Bd.exec
  have hby := Bd.bytes
  have hml : c.maxLocals = 7 := hml0
  have hown : s.vm.findClass "com/example/wideberth/wideberth/maximin/Triangle" = some m.cls := findClass_of_methodNamed Bd.named
  have hnm := (name_of_methodNamed Bd.named Bd.method).1
  have X0 : Stand p l e ({ frames := 0, cells := 0, slots := 0, locals := 0 } : Room) s m #[(.ref a7k2_0), (.int (2 : Int32)), (.double d7k2_2), (.double d7k2_3)] below meth c s₁ [] 0 0 := Stand.of_body Bd
  have e0 : s₁.heap = h0 := by rw [← hh, Bd.state]; rfl
  have N0 := Fr.nil n0
  have Zr : h0.size ≤ h0.size := Nat.le_refl _
  have pre0 : ∀ t, Steps p.tables e below (s₁.setTop (mkF m 0 #[.val (.ref a7k2_0), .val (.int (2 : Int32)), .val (.double d7k2_2), .second, .val (.double d7k2_3), .second, .unset] [])) t → Steps p.tables e below (s₁.setTop (entryFrame m #[(.ref a7k2_0), (.int (2 : Int32)), (.double d7k2_2), (.double d7k2_3)] 7)) t := fun t k => castTop (own_ef7k2 m a7k2_0 d7k2_2 d7k2_3) k
  obtain ⟨Tn7k2_1, Xn7k2_1, en7k2_1, stn7k2_1⟩ := getF X0 hx hZ hown (host := "") (Or.inl (hw _ (List.mem_of_getElem? (i := 21) rfl))) Via.refl e0 F_xs_a7k2_0 (g := (mkF m 8 #[.val (.ref a7k2_0), .val (.int (2 : Int32)), .val (.double d7k2_2), .second, .val (.double d7k2_3), .second, .val (.int (0 : Int32))] [(.ref a7k2_0)])) rfl rfl (hb hby own_d7_8)
  have Oo7k2_2 := V_w_xs_a7k2_0
  obtain ⟨clo7k2_2, Aro7k2_2, qo7k2_2, So7k2_2, No7k2_2, Ho7k2_2, Go7k2_2⟩ := Oo7k2_2
  have hino7k2_2 : ¬ ((0 : Int32) < 0 ∨ clo7k2_2.slots.size ≤ ((0 : Int32)).toNatClampNeg) := inb_of So7k2_2 ⟨by decide, by decide⟩
  have hato7k2_2 : clo7k2_2.slots[((0 : Int32)).toNatClampNeg]? = some (.double x_w_xs_a7k2_0_0) := Ho7k2_2.at hino7k2_2 rfl
  obtain ⟨Tn7k2_3, Xn7k2_3, en7k2_3, stn7k2_3⟩ := getF Xn7k2_1 hx hZ hown (host := "") (Or.inl (hw _ (List.mem_of_getElem? (i := 21) rfl))) Via.refl en7k2_1 F_xs_a7k2_0 (g := (mkF m 15 #[.val (.ref a7k2_0), .val (.int (2 : Int32)), .val (.double d7k2_2), .second, .val (.double d7k2_3), .second, .val (.int (0 : Int32))] [(.ref a7k2_0), (.double x_w_xs_a7k2_0_0)])) rfl rfl (hb hby own_d7_15)
  have Oo7k2_4 := V_w_xs_a7k2_0
  obtain ⟨clo7k2_4, Aro7k2_4, qo7k2_4, So7k2_4, No7k2_4, Ho7k2_4, Go7k2_4⟩ := Oo7k2_4
  have hino7k2_4 : ¬ ((2 : Int32) < 0 ∨ clo7k2_4.slots.size ≤ ((2 : Int32)).toNatClampNeg) := inb_of So7k2_4 ⟨by decide, by decide⟩
  have hato7k2_4 : clo7k2_4.slots[((2 : Int32)).toNatClampNeg]? = some (.double x_w_xs_a7k2_0_2) := Ho7k2_4.at hino7k2_4 rfl
  obtain ⟨Tn7k2_5, Xn7k2_5, en7k2_5, stn7k2_5⟩ := getF Xn7k2_3 hx hZ hown (host := "") (Or.inl (hw _ (List.mem_of_getElem? (i := 23) rfl))) Via.refl en7k2_3 F_ys_a7k2_0 (g := (mkF m 24 #[.val (.ref a7k2_0), .val (.int (2 : Int32)), .val (.double d7k2_2), .second, .val (.double d7k2_3), .second, .val (.int (0 : Int32))] [(.ref a7k2_0), (.double d7k2_3), (.double (FP.dsub x_w_xs_a7k2_0_0 x_w_xs_a7k2_0_2))])) rfl rfl (hb hby own_d7_24)
  have Oo7k2_6 := V_w_ys_a7k2_0
  obtain ⟨clo7k2_6, Aro7k2_6, qo7k2_6, So7k2_6, No7k2_6, Ho7k2_6, Go7k2_6⟩ := Oo7k2_6
  have hino7k2_6 : ¬ ((2 : Int32) < 0 ∨ clo7k2_6.slots.size ≤ ((2 : Int32)).toNatClampNeg) := inb_of So7k2_6 ⟨by decide, by decide⟩
  have hato7k2_6 : clo7k2_6.slots[((2 : Int32)).toNatClampNeg]? = some (.double x_w_ys_a7k2_0_2) := Ho7k2_6.at hino7k2_6 rfl
  obtain ⟨Tn7k2_7, Xn7k2_7, en7k2_7, stn7k2_7⟩ := getF Xn7k2_5 hx hZ hown (host := "") (Or.inl (hw _ (List.mem_of_getElem? (i := 23) rfl))) Via.refl en7k2_5 F_ys_a7k2_0 (g := (mkF m 32 #[.val (.ref a7k2_0), .val (.int (2 : Int32)), .val (.double d7k2_2), .second, .val (.double d7k2_3), .second, .val (.int (0 : Int32))] [(.ref a7k2_0), (.double (FP.dmul (FP.dsub x_w_xs_a7k2_0_0 x_w_xs_a7k2_0_2) (FP.dsub d7k2_3 x_w_ys_a7k2_0_2)))])) rfl rfl (hb hby own_d7_32)
  have Oo7k2_8 := V_w_ys_a7k2_0
  obtain ⟨clo7k2_8, Aro7k2_8, qo7k2_8, So7k2_8, No7k2_8, Ho7k2_8, Go7k2_8⟩ := Oo7k2_8
  have hino7k2_8 : ¬ ((0 : Int32) < 0 ∨ clo7k2_8.slots.size ≤ ((0 : Int32)).toNatClampNeg) := inb_of So7k2_8 ⟨by decide, by decide⟩
  have hato7k2_8 : clo7k2_8.slots[((0 : Int32)).toNatClampNeg]? = some (.double x_w_ys_a7k2_0_0) := Ho7k2_8.at hino7k2_8 rfl
  obtain ⟨Tn7k2_9, Xn7k2_9, en7k2_9, stn7k2_9⟩ := getF Xn7k2_7 hx hZ hown (host := "") (Or.inl (hw _ (List.mem_of_getElem? (i := 23) rfl))) Via.refl en7k2_7 F_ys_a7k2_0 (g := (mkF m 39 #[.val (.ref a7k2_0), .val (.int (2 : Int32)), .val (.double d7k2_2), .second, .val (.double d7k2_3), .second, .val (.int (0 : Int32))] [(.ref a7k2_0), (.double x_w_ys_a7k2_0_0), (.double (FP.dmul (FP.dsub x_w_xs_a7k2_0_0 x_w_xs_a7k2_0_2) (FP.dsub d7k2_3 x_w_ys_a7k2_0_2)))])) rfl rfl (hb hby own_d7_39)
  have Oo7k2_10 := V_w_ys_a7k2_0
  obtain ⟨clo7k2_10, Aro7k2_10, qo7k2_10, So7k2_10, No7k2_10, Ho7k2_10, Go7k2_10⟩ := Oo7k2_10
  have hino7k2_10 : ¬ ((2 : Int32) < 0 ∨ clo7k2_10.slots.size ≤ ((2 : Int32)).toNatClampNeg) := inb_of So7k2_10 ⟨by decide, by decide⟩
  have hato7k2_10 : clo7k2_10.slots[((2 : Int32)).toNatClampNeg]? = some (.double x_w_ys_a7k2_0_2) := Ho7k2_10.at hino7k2_10 rfl
  obtain ⟨Tn7k2_11, Xn7k2_11, en7k2_11, stn7k2_11⟩ := getF Xn7k2_9 hx hZ hown (host := "") (Or.inl (hw _ (List.mem_of_getElem? (i := 21) rfl))) Via.refl en7k2_9 F_xs_a7k2_0 (g := (mkF m 47 #[.val (.ref a7k2_0), .val (.int (2 : Int32)), .val (.double d7k2_2), .second, .val (.double d7k2_3), .second, .val (.int (0 : Int32))] [(.ref a7k2_0), (.double d7k2_2), (.double (FP.dsub x_w_ys_a7k2_0_0 x_w_ys_a7k2_0_2)), (.double (FP.dmul (FP.dsub x_w_xs_a7k2_0_0 x_w_xs_a7k2_0_2) (FP.dsub d7k2_3 x_w_ys_a7k2_0_2)))])) rfl rfl (hb hby own_d7_47)
  have Oo7k2_12 := V_w_xs_a7k2_0
  obtain ⟨clo7k2_12, Aro7k2_12, qo7k2_12, So7k2_12, No7k2_12, Ho7k2_12, Go7k2_12⟩ := Oo7k2_12
  have hino7k2_12 : ¬ ((2 : Int32) < 0 ∨ clo7k2_12.slots.size ≤ ((2 : Int32)).toNatClampNeg) := inb_of So7k2_12 ⟨by decide, by decide⟩
  have hato7k2_12 : clo7k2_12.slots[((2 : Int32)).toNatClampNeg]? = some (.double x_w_xs_a7k2_0_2) := Ho7k2_12.at hino7k2_12 rfl
  obtain ⟨fs, hr, hrun, hended, hW, hsame⟩ := Xn7k2_11.leave (v := some (.double (FP.dsub (FP.dmul (FP.dsub x_w_xs_a7k2_0_0 x_w_xs_a7k2_0_2) (FP.dsub d7k2_3 x_w_ys_a7k2_0_2)) (FP.dmul (FP.dsub x_w_ys_a7k2_0_0 x_w_ys_a7k2_0_2) (FP.dsub d7k2_2 x_w_xs_a7k2_0_2))))) (fun h => by rw [Bd.returns] at h; cases h)
  refine ⟨_, _, pre0 _ (?_), hrun, hended, _, _, rfl, ?_, ⟨_, rfl⟩, hW, hsame.mono (by decide) (by decide)⟩
  · show Steps p.tables e below (s₁.setTop (mkF m 0 #[.val (.ref a7k2_0), .val (.int (2 : Int32)), .val (.double d7k2_2), .second, .val (.double d7k2_3), .second, .unset] [])) _
    refine XS.iloadN X0.here hx rfl (hb hby own_d7_0) rfl ?_
    show Steps p.tables e below (s₁.setTop (mkF m 1 #[.val (.ref a7k2_0), .val (.int (2 : Int32)), .val (.double d7k2_2), .second, .val (.double d7k2_3), .second, .unset] [(.int (2 : Int32))])) _
    refine XS.iconst X0.here hx rfl (hb hby own_d7_1) ?_
    show Steps p.tables e below (s₁.setTop (mkF m 2 #[.val (.ref a7k2_0), .val (.int (2 : Int32)), .val (.double d7k2_2), .second, .val (.double d7k2_3), .second, .unset] [(.int (1 : Int32)), (.int (2 : Int32))])) _
    refine XS.iadd X0.here hx rfl (hb hby own_d7_2) rfl ?_
    show Steps p.tables e below (s₁.setTop (mkF m 3 #[.val (.ref a7k2_0), .val (.int (2 : Int32)), .val (.double d7k2_2), .second, .val (.double d7k2_3), .second, .unset] [(.int (3 : Int32))])) _
    refine XS.iconst X0.here hx rfl (hb hby own_d7_3) ?_
    show Steps p.tables e below (s₁.setTop (mkF m 4 #[.val (.ref a7k2_0), .val (.int (2 : Int32)), .val (.double d7k2_2), .second, .val (.double d7k2_3), .second, .unset] [(.int (3 : Int32)), (.int (3 : Int32))])) _
    refine XS.irem X0.here hx rfl (hb hby own_d7_4) rfl (by decide) ?_
    show Steps p.tables e below (s₁.setTop (mkF m 5 #[.val (.ref a7k2_0), .val (.int (2 : Int32)), .val (.double d7k2_2), .second, .val (.double d7k2_3), .second, .unset] [(.int (0 : Int32))])) _
    refine XS.istore X0.here hx rfl (hb hby own_d7_5) rfl (l' := #[.val (.ref a7k2_0), .val (.int (2 : Int32)), .val (.double d7k2_2), .second, .val (.double d7k2_3), .second, .val (.int (0 : Int32))]) rfl ?_
    show Steps p.tables e below (s₁.setTop (mkF m 7 #[.val (.ref a7k2_0), .val (.int (2 : Int32)), .val (.double d7k2_2), .second, .val (.double d7k2_3), .second, .val (.int (0 : Int32))] [])) _
    refine XS.aloadN X0.here hx rfl (hb hby own_d7_7) rfl rfl ?_
    show Steps p.tables e below (s₁.setTop (mkF m 8 #[.val (.ref a7k2_0), .val (.int (2 : Int32)), .val (.double d7k2_2), .second, .val (.double d7k2_3), .second, .val (.int (0 : Int32))] [(.ref a7k2_0)])) _
    refine stn7k2_1 _ ?_
    show Steps p.tables e below (Tn7k2_1.setTop (mkF m 11 #[.val (.ref a7k2_0), .val (.int (2 : Int32)), .val (.double d7k2_2), .second, .val (.double d7k2_3), .second, .val (.int (0 : Int32))] [(.ref w_xs_a7k2_0)])) _
    refine XS.iload Xn7k2_1.here hx rfl (hb hby own_d7_11) rfl ?_
    show Steps p.tables e below (Tn7k2_1.setTop (mkF m 13 #[.val (.ref a7k2_0), .val (.int (2 : Int32)), .val (.double d7k2_2), .second, .val (.double d7k2_3), .second, .val (.int (0 : Int32))] [(.int (0 : Int32)), (.ref w_xs_a7k2_0)])) _
    refine Xn7k2_1.daload hx (j := (0 : Int32)) (v := (.double x_w_xs_a7k2_0_0)) (by rw [en7k2_1]; exact Aro7k2_2.1) (State.isArrayOf_alike hZ.alike Aro7k2_2.2.1) Aro7k2_2.2.2 hino7k2_2 hato7k2_2 (g := (mkF m 13 #[.val (.ref a7k2_0), .val (.int (2 : Int32)), .val (.double d7k2_2), .second, .val (.double d7k2_3), .second, .val (.int (0 : Int32))] [(.int (0 : Int32)), (.ref w_xs_a7k2_0)])) rfl rfl (hb hby own_d7_13) _ ?_
    show Steps p.tables e below (Tn7k2_1.setTop (mkF m 14 #[.val (.ref a7k2_0), .val (.int (2 : Int32)), .val (.double d7k2_2), .second, .val (.double d7k2_3), .second, .val (.int (0 : Int32))] [(.double x_w_xs_a7k2_0_0)])) _
    refine XS.aloadN Xn7k2_1.here hx rfl (hb hby own_d7_14) rfl rfl ?_
    show Steps p.tables e below (Tn7k2_1.setTop (mkF m 15 #[.val (.ref a7k2_0), .val (.int (2 : Int32)), .val (.double d7k2_2), .second, .val (.double d7k2_3), .second, .val (.int (0 : Int32))] [(.ref a7k2_0), (.double x_w_xs_a7k2_0_0)])) _
    refine stn7k2_3 _ ?_
    show Steps p.tables e below (Tn7k2_3.setTop (mkF m 18 #[.val (.ref a7k2_0), .val (.int (2 : Int32)), .val (.double d7k2_2), .second, .val (.double d7k2_3), .second, .val (.int (0 : Int32))] [(.ref w_xs_a7k2_0), (.double x_w_xs_a7k2_0_0)])) _
    refine XS.iloadN Xn7k2_3.here hx rfl (hb hby own_d7_18) rfl ?_
    show Steps p.tables e below (Tn7k2_3.setTop (mkF m 19 #[.val (.ref a7k2_0), .val (.int (2 : Int32)), .val (.double d7k2_2), .second, .val (.double d7k2_3), .second, .val (.int (0 : Int32))] [(.int (2 : Int32)), (.ref w_xs_a7k2_0), (.double x_w_xs_a7k2_0_0)])) _
    refine Xn7k2_3.daload hx (j := (2 : Int32)) (v := (.double x_w_xs_a7k2_0_2)) (by rw [en7k2_3]; exact Aro7k2_4.1) (State.isArrayOf_alike hZ.alike Aro7k2_4.2.1) Aro7k2_4.2.2 hino7k2_4 hato7k2_4 (g := (mkF m 19 #[.val (.ref a7k2_0), .val (.int (2 : Int32)), .val (.double d7k2_2), .second, .val (.double d7k2_3), .second, .val (.int (0 : Int32))] [(.int (2 : Int32)), (.ref w_xs_a7k2_0), (.double x_w_xs_a7k2_0_0)])) rfl rfl (hb hby own_d7_19) _ ?_
    show Steps p.tables e below (Tn7k2_3.setTop (mkF m 20 #[.val (.ref a7k2_0), .val (.int (2 : Int32)), .val (.double d7k2_2), .second, .val (.double d7k2_3), .second, .val (.int (0 : Int32))] [(.double x_w_xs_a7k2_0_2), (.double x_w_xs_a7k2_0_0)])) _
    refine XS.dsubS Xn7k2_3.here hx rfl (hb hby own_d7_20) rfl nn20 rfl ?_
    show Steps p.tables e below (Tn7k2_3.setTop (mkF m 21 #[.val (.ref a7k2_0), .val (.int (2 : Int32)), .val (.double d7k2_2), .second, .val (.double d7k2_3), .second, .val (.int (0 : Int32))] [(.double (FP.dsub x_w_xs_a7k2_0_0 x_w_xs_a7k2_0_2))])) _
    refine XS.dload Xn7k2_3.here hx rfl (hb hby own_d7_21) rfl ?_
    show Steps p.tables e below (Tn7k2_3.setTop (mkF m 23 #[.val (.ref a7k2_0), .val (.int (2 : Int32)), .val (.double d7k2_2), .second, .val (.double d7k2_3), .second, .val (.int (0 : Int32))] [(.double d7k2_3), (.double (FP.dsub x_w_xs_a7k2_0_0 x_w_xs_a7k2_0_2))])) _
    refine XS.aloadN Xn7k2_3.here hx rfl (hb hby own_d7_23) rfl rfl ?_
    show Steps p.tables e below (Tn7k2_3.setTop (mkF m 24 #[.val (.ref a7k2_0), .val (.int (2 : Int32)), .val (.double d7k2_2), .second, .val (.double d7k2_3), .second, .val (.int (0 : Int32))] [(.ref a7k2_0), (.double d7k2_3), (.double (FP.dsub x_w_xs_a7k2_0_0 x_w_xs_a7k2_0_2))])) _
    refine stn7k2_5 _ ?_
    show Steps p.tables e below (Tn7k2_5.setTop (mkF m 27 #[.val (.ref a7k2_0), .val (.int (2 : Int32)), .val (.double d7k2_2), .second, .val (.double d7k2_3), .second, .val (.int (0 : Int32))] [(.ref w_ys_a7k2_0), (.double d7k2_3), (.double (FP.dsub x_w_xs_a7k2_0_0 x_w_xs_a7k2_0_2))])) _
    refine XS.iloadN Xn7k2_5.here hx rfl (hb hby own_d7_27) rfl ?_
    show Steps p.tables e below (Tn7k2_5.setTop (mkF m 28 #[.val (.ref a7k2_0), .val (.int (2 : Int32)), .val (.double d7k2_2), .second, .val (.double d7k2_3), .second, .val (.int (0 : Int32))] [(.int (2 : Int32)), (.ref w_ys_a7k2_0), (.double d7k2_3), (.double (FP.dsub x_w_xs_a7k2_0_0 x_w_xs_a7k2_0_2))])) _
    refine Xn7k2_5.daload hx (j := (2 : Int32)) (v := (.double x_w_ys_a7k2_0_2)) (by rw [en7k2_5]; exact Aro7k2_6.1) (State.isArrayOf_alike hZ.alike Aro7k2_6.2.1) Aro7k2_6.2.2 hino7k2_6 hato7k2_6 (g := (mkF m 28 #[.val (.ref a7k2_0), .val (.int (2 : Int32)), .val (.double d7k2_2), .second, .val (.double d7k2_3), .second, .val (.int (0 : Int32))] [(.int (2 : Int32)), (.ref w_ys_a7k2_0), (.double d7k2_3), (.double (FP.dsub x_w_xs_a7k2_0_0 x_w_xs_a7k2_0_2))])) rfl rfl (hb hby own_d7_28) _ ?_
    show Steps p.tables e below (Tn7k2_5.setTop (mkF m 29 #[.val (.ref a7k2_0), .val (.int (2 : Int32)), .val (.double d7k2_2), .second, .val (.double d7k2_3), .second, .val (.int (0 : Int32))] [(.double x_w_ys_a7k2_0_2), (.double d7k2_3), (.double (FP.dsub x_w_xs_a7k2_0_0 x_w_xs_a7k2_0_2))])) _
    refine XS.dsubS Xn7k2_5.here hx rfl (hb hby own_d7_29) rfl nn29 rfl ?_
    show Steps p.tables e below (Tn7k2_5.setTop (mkF m 30 #[.val (.ref a7k2_0), .val (.int (2 : Int32)), .val (.double d7k2_2), .second, .val (.double d7k2_3), .second, .val (.int (0 : Int32))] [(.double (FP.dsub d7k2_3 x_w_ys_a7k2_0_2)), (.double (FP.dsub x_w_xs_a7k2_0_0 x_w_xs_a7k2_0_2))])) _
    refine XS.dmulS Xn7k2_5.here hx rfl (hb hby own_d7_30) rfl nn30 rfl ?_
    show Steps p.tables e below (Tn7k2_5.setTop (mkF m 31 #[.val (.ref a7k2_0), .val (.int (2 : Int32)), .val (.double d7k2_2), .second, .val (.double d7k2_3), .second, .val (.int (0 : Int32))] [(.double (FP.dmul (FP.dsub x_w_xs_a7k2_0_0 x_w_xs_a7k2_0_2) (FP.dsub d7k2_3 x_w_ys_a7k2_0_2)))])) _
    refine XS.aloadN Xn7k2_5.here hx rfl (hb hby own_d7_31) rfl rfl ?_
    show Steps p.tables e below (Tn7k2_5.setTop (mkF m 32 #[.val (.ref a7k2_0), .val (.int (2 : Int32)), .val (.double d7k2_2), .second, .val (.double d7k2_3), .second, .val (.int (0 : Int32))] [(.ref a7k2_0), (.double (FP.dmul (FP.dsub x_w_xs_a7k2_0_0 x_w_xs_a7k2_0_2) (FP.dsub d7k2_3 x_w_ys_a7k2_0_2)))])) _
    refine stn7k2_7 _ ?_
    show Steps p.tables e below (Tn7k2_7.setTop (mkF m 35 #[.val (.ref a7k2_0), .val (.int (2 : Int32)), .val (.double d7k2_2), .second, .val (.double d7k2_3), .second, .val (.int (0 : Int32))] [(.ref w_ys_a7k2_0), (.double (FP.dmul (FP.dsub x_w_xs_a7k2_0_0 x_w_xs_a7k2_0_2) (FP.dsub d7k2_3 x_w_ys_a7k2_0_2)))])) _
    refine XS.iload Xn7k2_7.here hx rfl (hb hby own_d7_35) rfl ?_
    show Steps p.tables e below (Tn7k2_7.setTop (mkF m 37 #[.val (.ref a7k2_0), .val (.int (2 : Int32)), .val (.double d7k2_2), .second, .val (.double d7k2_3), .second, .val (.int (0 : Int32))] [(.int (0 : Int32)), (.ref w_ys_a7k2_0), (.double (FP.dmul (FP.dsub x_w_xs_a7k2_0_0 x_w_xs_a7k2_0_2) (FP.dsub d7k2_3 x_w_ys_a7k2_0_2)))])) _
    refine Xn7k2_7.daload hx (j := (0 : Int32)) (v := (.double x_w_ys_a7k2_0_0)) (by rw [en7k2_7]; exact Aro7k2_8.1) (State.isArrayOf_alike hZ.alike Aro7k2_8.2.1) Aro7k2_8.2.2 hino7k2_8 hato7k2_8 (g := (mkF m 37 #[.val (.ref a7k2_0), .val (.int (2 : Int32)), .val (.double d7k2_2), .second, .val (.double d7k2_3), .second, .val (.int (0 : Int32))] [(.int (0 : Int32)), (.ref w_ys_a7k2_0), (.double (FP.dmul (FP.dsub x_w_xs_a7k2_0_0 x_w_xs_a7k2_0_2) (FP.dsub d7k2_3 x_w_ys_a7k2_0_2)))])) rfl rfl (hb hby own_d7_37) _ ?_
    show Steps p.tables e below (Tn7k2_7.setTop (mkF m 38 #[.val (.ref a7k2_0), .val (.int (2 : Int32)), .val (.double d7k2_2), .second, .val (.double d7k2_3), .second, .val (.int (0 : Int32))] [(.double x_w_ys_a7k2_0_0), (.double (FP.dmul (FP.dsub x_w_xs_a7k2_0_0 x_w_xs_a7k2_0_2) (FP.dsub d7k2_3 x_w_ys_a7k2_0_2)))])) _
    refine XS.aloadN Xn7k2_7.here hx rfl (hb hby own_d7_38) rfl rfl ?_
    show Steps p.tables e below (Tn7k2_7.setTop (mkF m 39 #[.val (.ref a7k2_0), .val (.int (2 : Int32)), .val (.double d7k2_2), .second, .val (.double d7k2_3), .second, .val (.int (0 : Int32))] [(.ref a7k2_0), (.double x_w_ys_a7k2_0_0), (.double (FP.dmul (FP.dsub x_w_xs_a7k2_0_0 x_w_xs_a7k2_0_2) (FP.dsub d7k2_3 x_w_ys_a7k2_0_2)))])) _
    refine stn7k2_9 _ ?_
    show Steps p.tables e below (Tn7k2_9.setTop (mkF m 42 #[.val (.ref a7k2_0), .val (.int (2 : Int32)), .val (.double d7k2_2), .second, .val (.double d7k2_3), .second, .val (.int (0 : Int32))] [(.ref w_ys_a7k2_0), (.double x_w_ys_a7k2_0_0), (.double (FP.dmul (FP.dsub x_w_xs_a7k2_0_0 x_w_xs_a7k2_0_2) (FP.dsub d7k2_3 x_w_ys_a7k2_0_2)))])) _
    refine XS.iloadN Xn7k2_9.here hx rfl (hb hby own_d7_42) rfl ?_
    show Steps p.tables e below (Tn7k2_9.setTop (mkF m 43 #[.val (.ref a7k2_0), .val (.int (2 : Int32)), .val (.double d7k2_2), .second, .val (.double d7k2_3), .second, .val (.int (0 : Int32))] [(.int (2 : Int32)), (.ref w_ys_a7k2_0), (.double x_w_ys_a7k2_0_0), (.double (FP.dmul (FP.dsub x_w_xs_a7k2_0_0 x_w_xs_a7k2_0_2) (FP.dsub d7k2_3 x_w_ys_a7k2_0_2)))])) _
    refine Xn7k2_9.daload hx (j := (2 : Int32)) (v := (.double x_w_ys_a7k2_0_2)) (by rw [en7k2_9]; exact Aro7k2_10.1) (State.isArrayOf_alike hZ.alike Aro7k2_10.2.1) Aro7k2_10.2.2 hino7k2_10 hato7k2_10 (g := (mkF m 43 #[.val (.ref a7k2_0), .val (.int (2 : Int32)), .val (.double d7k2_2), .second, .val (.double d7k2_3), .second, .val (.int (0 : Int32))] [(.int (2 : Int32)), (.ref w_ys_a7k2_0), (.double x_w_ys_a7k2_0_0), (.double (FP.dmul (FP.dsub x_w_xs_a7k2_0_0 x_w_xs_a7k2_0_2) (FP.dsub d7k2_3 x_w_ys_a7k2_0_2)))])) rfl rfl (hb hby own_d7_43) _ ?_
    show Steps p.tables e below (Tn7k2_9.setTop (mkF m 44 #[.val (.ref a7k2_0), .val (.int (2 : Int32)), .val (.double d7k2_2), .second, .val (.double d7k2_3), .second, .val (.int (0 : Int32))] [(.double x_w_ys_a7k2_0_2), (.double x_w_ys_a7k2_0_0), (.double (FP.dmul (FP.dsub x_w_xs_a7k2_0_0 x_w_xs_a7k2_0_2) (FP.dsub d7k2_3 x_w_ys_a7k2_0_2)))])) _
    refine XS.dsubS Xn7k2_9.here hx rfl (hb hby own_d7_44) rfl nn44 rfl ?_
    show Steps p.tables e below (Tn7k2_9.setTop (mkF m 45 #[.val (.ref a7k2_0), .val (.int (2 : Int32)), .val (.double d7k2_2), .second, .val (.double d7k2_3), .second, .val (.int (0 : Int32))] [(.double (FP.dsub x_w_ys_a7k2_0_0 x_w_ys_a7k2_0_2)), (.double (FP.dmul (FP.dsub x_w_xs_a7k2_0_0 x_w_xs_a7k2_0_2) (FP.dsub d7k2_3 x_w_ys_a7k2_0_2)))])) _
    refine XS.dloadN Xn7k2_9.here hx rfl (hb hby own_d7_45) rfl ?_
    show Steps p.tables e below (Tn7k2_9.setTop (mkF m 46 #[.val (.ref a7k2_0), .val (.int (2 : Int32)), .val (.double d7k2_2), .second, .val (.double d7k2_3), .second, .val (.int (0 : Int32))] [(.double d7k2_2), (.double (FP.dsub x_w_ys_a7k2_0_0 x_w_ys_a7k2_0_2)), (.double (FP.dmul (FP.dsub x_w_xs_a7k2_0_0 x_w_xs_a7k2_0_2) (FP.dsub d7k2_3 x_w_ys_a7k2_0_2)))])) _
    refine XS.aloadN Xn7k2_9.here hx rfl (hb hby own_d7_46) rfl rfl ?_
    show Steps p.tables e below (Tn7k2_9.setTop (mkF m 47 #[.val (.ref a7k2_0), .val (.int (2 : Int32)), .val (.double d7k2_2), .second, .val (.double d7k2_3), .second, .val (.int (0 : Int32))] [(.ref a7k2_0), (.double d7k2_2), (.double (FP.dsub x_w_ys_a7k2_0_0 x_w_ys_a7k2_0_2)), (.double (FP.dmul (FP.dsub x_w_xs_a7k2_0_0 x_w_xs_a7k2_0_2) (FP.dsub d7k2_3 x_w_ys_a7k2_0_2)))])) _
    refine stn7k2_11 _ ?_
    show Steps p.tables e below (Tn7k2_11.setTop (mkF m 50 #[.val (.ref a7k2_0), .val (.int (2 : Int32)), .val (.double d7k2_2), .second, .val (.double d7k2_3), .second, .val (.int (0 : Int32))] [(.ref w_xs_a7k2_0), (.double d7k2_2), (.double (FP.dsub x_w_ys_a7k2_0_0 x_w_ys_a7k2_0_2)), (.double (FP.dmul (FP.dsub x_w_xs_a7k2_0_0 x_w_xs_a7k2_0_2) (FP.dsub d7k2_3 x_w_ys_a7k2_0_2)))])) _
    refine XS.iloadN Xn7k2_11.here hx rfl (hb hby own_d7_50) rfl ?_
    show Steps p.tables e below (Tn7k2_11.setTop (mkF m 51 #[.val (.ref a7k2_0), .val (.int (2 : Int32)), .val (.double d7k2_2), .second, .val (.double d7k2_3), .second, .val (.int (0 : Int32))] [(.int (2 : Int32)), (.ref w_xs_a7k2_0), (.double d7k2_2), (.double (FP.dsub x_w_ys_a7k2_0_0 x_w_ys_a7k2_0_2)), (.double (FP.dmul (FP.dsub x_w_xs_a7k2_0_0 x_w_xs_a7k2_0_2) (FP.dsub d7k2_3 x_w_ys_a7k2_0_2)))])) _
    refine Xn7k2_11.daload hx (j := (2 : Int32)) (v := (.double x_w_xs_a7k2_0_2)) (by rw [en7k2_11]; exact Aro7k2_12.1) (State.isArrayOf_alike hZ.alike Aro7k2_12.2.1) Aro7k2_12.2.2 hino7k2_12 hato7k2_12 (g := (mkF m 51 #[.val (.ref a7k2_0), .val (.int (2 : Int32)), .val (.double d7k2_2), .second, .val (.double d7k2_3), .second, .val (.int (0 : Int32))] [(.int (2 : Int32)), (.ref w_xs_a7k2_0), (.double d7k2_2), (.double (FP.dsub x_w_ys_a7k2_0_0 x_w_ys_a7k2_0_2)), (.double (FP.dmul (FP.dsub x_w_xs_a7k2_0_0 x_w_xs_a7k2_0_2) (FP.dsub d7k2_3 x_w_ys_a7k2_0_2)))])) rfl rfl (hb hby own_d7_51) _ ?_
    show Steps p.tables e below (Tn7k2_11.setTop (mkF m 52 #[.val (.ref a7k2_0), .val (.int (2 : Int32)), .val (.double d7k2_2), .second, .val (.double d7k2_3), .second, .val (.int (0 : Int32))] [(.double x_w_xs_a7k2_0_2), (.double d7k2_2), (.double (FP.dsub x_w_ys_a7k2_0_0 x_w_ys_a7k2_0_2)), (.double (FP.dmul (FP.dsub x_w_xs_a7k2_0_0 x_w_xs_a7k2_0_2) (FP.dsub d7k2_3 x_w_ys_a7k2_0_2)))])) _
    refine XS.dsubS Xn7k2_11.here hx rfl (hb hby own_d7_52) rfl nn52 rfl ?_
    show Steps p.tables e below (Tn7k2_11.setTop (mkF m 53 #[.val (.ref a7k2_0), .val (.int (2 : Int32)), .val (.double d7k2_2), .second, .val (.double d7k2_3), .second, .val (.int (0 : Int32))] [(.double (FP.dsub d7k2_2 x_w_xs_a7k2_0_2)), (.double (FP.dsub x_w_ys_a7k2_0_0 x_w_ys_a7k2_0_2)), (.double (FP.dmul (FP.dsub x_w_xs_a7k2_0_0 x_w_xs_a7k2_0_2) (FP.dsub d7k2_3 x_w_ys_a7k2_0_2)))])) _
    refine XS.dmulS Xn7k2_11.here hx rfl (hb hby own_d7_53) rfl nn53 rfl ?_
    show Steps p.tables e below (Tn7k2_11.setTop (mkF m 54 #[.val (.ref a7k2_0), .val (.int (2 : Int32)), .val (.double d7k2_2), .second, .val (.double d7k2_3), .second, .val (.int (0 : Int32))] [(.double (FP.dmul (FP.dsub x_w_ys_a7k2_0_0 x_w_ys_a7k2_0_2) (FP.dsub d7k2_2 x_w_xs_a7k2_0_2))), (.double (FP.dmul (FP.dsub x_w_xs_a7k2_0_0 x_w_xs_a7k2_0_2) (FP.dsub d7k2_3 x_w_ys_a7k2_0_2)))])) _
    refine XS.dsubS Xn7k2_11.here hx rfl (hb hby own_d7_54) rfl nn54 rfl ?_
    show Steps p.tables e below (Tn7k2_11.setTop (mkF m 55 #[.val (.ref a7k2_0), .val (.int (2 : Int32)), .val (.double d7k2_2), .second, .val (.double d7k2_3), .second, .val (.int (0 : Int32))] [(.double (FP.dsub (FP.dmul (FP.dsub x_w_xs_a7k2_0_0 x_w_xs_a7k2_0_2) (FP.dsub d7k2_3 x_w_ys_a7k2_0_2)) (FP.dmul (FP.dsub x_w_ys_a7k2_0_0 x_w_ys_a7k2_0_2) (FP.dsub d7k2_2 x_w_xs_a7k2_0_2))))])) _
    exact own_retD Xn7k2_11 hx Bd.returns (hb hby own_d7_55) hr
  · show own_Q7k2 Z a7k2_0 d7k2_2 d7k2_3 w_xs_a7k2_0 k_w_xs_a7k2_0 x_w_xs_a7k2_0_0 x_w_xs_a7k2_0_1 x_w_xs_a7k2_0_2 w_ys_a7k2_0 k_w_ys_a7k2_0 x_w_ys_a7k2_0_0 x_w_ys_a7k2_0_1 x_w_ys_a7k2_0_2 h0 n0 _ Tn7k2_11.heap _
    rw [en7k2_11]
    exact ⟨rfl, N0, rfl⟩
theorem own_pd0 : parseMethodDescriptor "(IDD)D" = some ⟨[.int, .double, .double], some .double⟩ := by decide +kernel
theorem own_d6_0 : decode prog_23_method_4_code 0 = .ok (.aload_n 0, 1) := by decide +kernel
theorem own_d6_1 : decode prog_23_method_4_code 1 = .ok (.iconst 0, 1) := by decide +kernel
theorem own_d6_2 : decode prog_23_method_4_code 2 = .ok (.dload_n 1, 1) := by decide +kernel
theorem own_d6_3 : decode prog_23_method_4_code 3 = .ok (.dload_n 3, 1) := by decide +kernel
theorem own_d6_4 : decode prog_23_method_4_code 4 = .ok (.invokevirtual 16, 3) := by decide +kernel
theorem own_d6_7 : decode prog_23_method_4_code 7 = .ok (.dstore 5, 2) := by decide +kernel
theorem own_d6_9 : decode prog_23_method_4_code 9 = .ok (.aload_n 0, 1) := by decide +kernel
theorem own_d6_10 : decode prog_23_method_4_code 10 = .ok (.iconst 1, 1) := by decide +kernel
theorem own_d6_11 : decode prog_23_method_4_code 11 = .ok (.dload_n 1, 1) := by decide +kernel
theorem own_d6_12 : decode prog_23_method_4_code 12 = .ok (.dload_n 3, 1) := by decide +kernel
theorem own_d6_13 : decode prog_23_method_4_code 13 = .ok (.invokevirtual 16, 3) := by decide +kernel
theorem own_d6_16 : decode prog_23_method_4_code 16 = .ok (.dstore 7, 2) := by decide +kernel
theorem own_d6_18 : decode prog_23_method_4_code 18 = .ok (.aload_n 0, 1) := by decide +kernel
theorem own_d6_19 : decode prog_23_method_4_code 19 = .ok (.iconst 2, 1) := by decide +kernel
theorem own_d6_20 : decode prog_23_method_4_code 20 = .ok (.dload_n 1, 1) := by decide +kernel
theorem own_d6_21 : decode prog_23_method_4_code 21 = .ok (.dload_n 3, 1) := by decide +kernel
theorem own_d6_22 : decode prog_23_method_4_code 22 = .ok (.invokevirtual 16, 3) := by decide +kernel
theorem own_d6_25 : decode prog_23_method_4_code 25 = .ok (.dstore 9, 2) := by decide +kernel
theorem own_d6_27 : decode prog_23_method_4_code 27 = .ok (.dload 5, 2) := by decide +kernel
theorem own_d6_29 : decode prog_23_method_4_code 29 = .ok (.dconst 0, 1) := by decide +kernel
theorem own_d6_30 : decode prog_23_method_4_code 30 = .ok (.dcmp .l, 1) := by decide +kernel
theorem own_d6_31 : decode prog_23_method_4_code 31 = .ok (.ifCond .lt 17, 3) := by decide +kernel
theorem own_d6_34 : decode prog_23_method_4_code 34 = .ok (.dload 7, 2) := by decide +kernel
theorem own_d6_36 : decode prog_23_method_4_code 36 = .ok (.dconst 0, 1) := by decide +kernel
theorem own_d6_37 : decode prog_23_method_4_code 37 = .ok (.dcmp .l, 1) := by decide +kernel
theorem own_d6_38 : decode prog_23_method_4_code 38 = .ok (.ifCond .lt 10, 3) := by decide +kernel
theorem own_d6_41 : decode prog_23_method_4_code 41 = .ok (.dload 9, 2) := by decide +kernel
theorem own_d6_43 : decode prog_23_method_4_code 43 = .ok (.dconst 0, 1) := by decide +kernel
theorem own_d6_44 : decode prog_23_method_4_code 44 = .ok (.dcmp .l, 1) := by decide +kernel
theorem own_d6_45 : decode prog_23_method_4_code 45 = .ok (.ifCond .ge 24, 3) := by decide +kernel
theorem own_d6_48 : decode prog_23_method_4_code 48 = .ok (.dload 5, 2) := by decide +kernel
theorem own_d6_50 : decode prog_23_method_4_code 50 = .ok (.dconst 0, 1) := by decide +kernel
theorem own_d6_51 : decode prog_23_method_4_code 51 = .ok (.dcmp .g, 1) := by decide +kernel
theorem own_d6_52 : decode prog_23_method_4_code 52 = .ok (.ifCond .gt 21, 3) := by decide +kernel
theorem own_d6_55 : decode prog_23_method_4_code 55 = .ok (.dload 7, 2) := by decide +kernel
theorem own_d6_57 : decode prog_23_method_4_code 57 = .ok (.dconst 0, 1) := by decide +kernel
theorem own_d6_58 : decode prog_23_method_4_code 58 = .ok (.dcmp .g, 1) := by decide +kernel
theorem own_d6_59 : decode prog_23_method_4_code 59 = .ok (.ifCond .gt 14, 3) := by decide +kernel
theorem own_d6_62 : decode prog_23_method_4_code 62 = .ok (.dload 9, 2) := by decide +kernel
theorem own_d6_64 : decode prog_23_method_4_code 64 = .ok (.dconst 0, 1) := by decide +kernel
theorem own_d6_65 : decode prog_23_method_4_code 65 = .ok (.dcmp .g, 1) := by decide +kernel
theorem own_d6_66 : decode prog_23_method_4_code 66 = .ok (.ifCond .gt 7, 3) := by decide +kernel
theorem own_d6_69 : decode prog_23_method_4_code 69 = .ok (.iconst 1, 1) := by decide +kernel
theorem own_d6_70 : decode prog_23_method_4_code 70 = .ok (.goto 4, 3) := by decide +kernel
theorem own_d6_73 : decode prog_23_method_4_code 73 = .ok (.iconst 0, 1) := by decide +kernel
theorem own_d6_74 : decode prog_23_method_4_code 74 = .ok (.ireturn, 1) := by decide +kernel
def own_j6_0 (d6_1 : UInt64) (d6_2 : UInt64) (x_w_xs_a6_0_0 : UInt64) (x_w_xs_a6_0_2 : UInt64) (x_w_ys_a6_0_0 : UInt64) (x_w_ys_a6_0_2 : UInt64) : Int32 := if (0 : Int32) < (cmpValue (FP.dcmp (own_r7k2_0 d6_1 d6_2 x_w_xs_a6_0_0 x_w_xs_a6_0_2 x_w_ys_a6_0_0 x_w_ys_a6_0_2) (0 : UInt64)) .g) then (0 : Int32) else (1 : Int32)
def own_j6_1 (d6_1 : UInt64) (d6_2 : UInt64) (x_w_xs_a6_0_0 : UInt64) (x_w_xs_a6_0_1 : UInt64) (x_w_xs_a6_0_2 : UInt64) (x_w_ys_a6_0_0 : UInt64) (x_w_ys_a6_0_1 : UInt64) (x_w_ys_a6_0_2 : UInt64) : Int32 := if (0 : Int32) < (cmpValue (FP.dcmp (own_r7k1_0 d6_1 d6_2 x_w_xs_a6_0_1 x_w_xs_a6_0_2 x_w_ys_a6_0_1 x_w_ys_a6_0_2) (0 : UInt64)) .g) then (0 : Int32) else (own_j6_0 d6_1 d6_2 x_w_xs_a6_0_0 x_w_xs_a6_0_2 x_w_ys_a6_0_0 x_w_ys_a6_0_2)
def own_j6_2 (d6_1 : UInt64) (d6_2 : UInt64) (x_w_xs_a6_0_0 : UInt64) (x_w_xs_a6_0_1 : UInt64) (x_w_xs_a6_0_2 : UInt64) (x_w_ys_a6_0_0 : UInt64) (x_w_ys_a6_0_1 : UInt64) (x_w_ys_a6_0_2 : UInt64) : Int32 := if (0 : Int32) < (cmpValue (FP.dcmp (own_r7k0_0 d6_1 d6_2 x_w_xs_a6_0_0 x_w_xs_a6_0_1 x_w_ys_a6_0_0 x_w_ys_a6_0_1) (0 : UInt64)) .g) then (0 : Int32) else (own_j6_1 d6_1 d6_2 x_w_xs_a6_0_0 x_w_xs_a6_0_1 x_w_xs_a6_0_2 x_w_ys_a6_0_0 x_w_ys_a6_0_1 x_w_ys_a6_0_2)
def own_j6_3 (d6_1 : UInt64) (d6_2 : UInt64) (x_w_xs_a6_0_0 : UInt64) (x_w_xs_a6_0_1 : UInt64) (x_w_xs_a6_0_2 : UInt64) (x_w_ys_a6_0_0 : UInt64) (x_w_ys_a6_0_1 : UInt64) (x_w_ys_a6_0_2 : UInt64) : Int32 := if (cmpValue (FP.dcmp (own_r7k2_0 d6_1 d6_2 x_w_xs_a6_0_0 x_w_xs_a6_0_2 x_w_ys_a6_0_0 x_w_ys_a6_0_2) (0 : UInt64)) .l) < (0 : Int32) then (own_j6_2 d6_1 d6_2 x_w_xs_a6_0_0 x_w_xs_a6_0_1 x_w_xs_a6_0_2 x_w_ys_a6_0_0 x_w_ys_a6_0_1 x_w_ys_a6_0_2) else (1 : Int32)
def own_j6_4 (d6_1 : UInt64) (d6_2 : UInt64) (x_w_xs_a6_0_0 : UInt64) (x_w_xs_a6_0_1 : UInt64) (x_w_xs_a6_0_2 : UInt64) (x_w_ys_a6_0_0 : UInt64) (x_w_ys_a6_0_1 : UInt64) (x_w_ys_a6_0_2 : UInt64) : Int32 := if (cmpValue (FP.dcmp (own_r7k1_0 d6_1 d6_2 x_w_xs_a6_0_1 x_w_xs_a6_0_2 x_w_ys_a6_0_1 x_w_ys_a6_0_2) (0 : UInt64)) .l) < (0 : Int32) then (own_j6_2 d6_1 d6_2 x_w_xs_a6_0_0 x_w_xs_a6_0_1 x_w_xs_a6_0_2 x_w_ys_a6_0_0 x_w_ys_a6_0_1 x_w_ys_a6_0_2) else (own_j6_3 d6_1 d6_2 x_w_xs_a6_0_0 x_w_xs_a6_0_1 x_w_xs_a6_0_2 x_w_ys_a6_0_0 x_w_ys_a6_0_1 x_w_ys_a6_0_2)
def own_j6_5 (d6_1 : UInt64) (d6_2 : UInt64) (x_w_xs_a6_0_0 : UInt64) (x_w_xs_a6_0_1 : UInt64) (x_w_xs_a6_0_2 : UInt64) (x_w_ys_a6_0_0 : UInt64) (x_w_ys_a6_0_1 : UInt64) (x_w_ys_a6_0_2 : UInt64) : Int32 := if (cmpValue (FP.dcmp (own_r7k0_0 d6_1 d6_2 x_w_xs_a6_0_0 x_w_xs_a6_0_1 x_w_ys_a6_0_0 x_w_ys_a6_0_1) (0 : UInt64)) .l) < (0 : Int32) then (own_j6_2 d6_1 d6_2 x_w_xs_a6_0_0 x_w_xs_a6_0_1 x_w_xs_a6_0_2 x_w_ys_a6_0_0 x_w_ys_a6_0_1 x_w_ys_a6_0_2) else (own_j6_4 d6_1 d6_2 x_w_xs_a6_0_0 x_w_xs_a6_0_1 x_w_xs_a6_0_2 x_w_ys_a6_0_0 x_w_ys_a6_0_1 x_w_ys_a6_0_2)
def own_r6_6 (d6_1 : UInt64) (d6_2 : UInt64) (x_w_xs_a6_0_0 : UInt64) (x_w_xs_a6_0_1 : UInt64) (x_w_xs_a6_0_2 : UInt64) (x_w_ys_a6_0_0 : UInt64) (x_w_ys_a6_0_1 : UInt64) (x_w_ys_a6_0_2 : UInt64) : Int32 := (nar .boolean (own_j6_5 d6_1 d6_2 x_w_xs_a6_0_0 x_w_xs_a6_0_1 x_w_xs_a6_0_2 x_w_ys_a6_0_0 x_w_ys_a6_0_1 x_w_ys_a6_0_2))
theorem own_ef6 (m : MethodId) (a6_0 : Addr) (d6_1 : UInt64) (d6_2 : UInt64) : entryFrame m #[(.ref a6_0), (.double d6_1), (.double d6_2)] 11 = mkF m 0 #[.val (.ref a6_0), .val (.double d6_1), .second, .val (.double d6_2), .second, .unset, .unset, .unset, .unset, .unset, .unset] [] := by first | (simp [entryFrame, mkF, argsToLocals, Value.category]; done) | rfl
def own_Q6 (Z : State) (a6_0 : Addr) (d6_1 : UInt64) (d6_2 : UInt64) (w_xs_a6_0 : Addr) (k_w_xs_a6_0 : ClassId) (x_w_xs_a6_0_0 : UInt64) (x_w_xs_a6_0_1 : UInt64) (x_w_xs_a6_0_2 : UInt64) (w_ys_a6_0 : Addr) (k_w_ys_a6_0 : ClassId) (x_w_ys_a6_0_0 : UInt64) (x_w_ys_a6_0_1 : UInt64) (x_w_ys_a6_0_2 : UInt64) (h0 : Heap) (n0 : Nat) (v : Option Value) (h : Heap) (L : List Loc) : Prop := v = some (.int (own_r6_6 d6_1 d6_2 x_w_xs_a6_0_0 x_w_xs_a6_0_1 x_w_xs_a6_0_2 x_w_ys_a6_0_0 x_w_ys_a6_0_1 x_w_ys_a6_0_2)) ∧ Fr n0 L ∧ h = h0
set_option maxRecDepth 65536 in
set_option maxHeartbeats 40000000 in
theorem own_rm6 (l : Launch) (Z : State) (a0 : Array Value) (hw : ∀ d ∈ tables_1, d.before a0 Z = true) (ws : List Jvm.Cond) (a6_0 : Addr) (d6_1 : UInt64) (d6_2 : UInt64) (w_xs_a6_0 : Addr) (k_w_xs_a6_0 : ClassId) (x_w_xs_a6_0_0 : UInt64) (x_w_xs_a6_0_1 : UInt64) (x_w_xs_a6_0_2 : UInt64) (w_ys_a6_0 : Addr) (k_w_ys_a6_0 : ClassId) (x_w_ys_a6_0_0 : UInt64) (x_w_ys_a6_0_1 : UInt64) (x_w_ys_a6_0_2 : UInt64) (h0 : Heap) (n0 : Nat) (Z0 : n0 ≤ h0.size) (F_xs_a6_0 : Fld Z h0 a6_0 "com/example/wideberth/wideberth/maximin/Triangle" "xs" "[D" (.ref w_xs_a6_0)) (V_w_xs_a6_0 : Arv Z h0 w_xs_a6_0 k_w_xs_a6_0 .double (3 : Int32) [(.double x_w_xs_a6_0_0), (.double x_w_xs_a6_0_1), (.double x_w_xs_a6_0_2)] (.double (0 : UInt64))) (F_ys_a6_0 : Fld Z h0 a6_0 "com/example/wideberth/wideberth/maximin/Triangle" "ys" "[D" (.ref w_ys_a6_0)) (V_w_ys_a6_0 : Arv Z h0 w_ys_a6_0 k_w_ys_a6_0 .double (3 : Int32) [(.double x_w_ys_a6_0_0), (.double x_w_ys_a6_0_1), (.double x_w_ys_a6_0_2)] (.double (0 : UInt64))) (E_a6_0 : Exa Z h0 a6_0 "com/example/wideberth/wideberth/maximin/Triangle") (c4_nn20 : NoNaN64 (FP.dsub x_w_xs_a6_0_1 x_w_xs_a6_0_0)) (c4_nn29 : NoNaN64 (FP.dsub d6_2 x_w_ys_a6_0_0)) (c4_nn30 : NoNaN64 (FP.dmul (FP.dsub x_w_xs_a6_0_1 x_w_xs_a6_0_0) (FP.dsub d6_2 x_w_ys_a6_0_0))) (c4_nn44 : NoNaN64 (FP.dsub x_w_ys_a6_0_1 x_w_ys_a6_0_0)) (c4_nn52 : NoNaN64 (FP.dsub d6_1 x_w_xs_a6_0_0)) (c4_nn53 : NoNaN64 (FP.dmul (FP.dsub x_w_ys_a6_0_1 x_w_ys_a6_0_0) (FP.dsub d6_1 x_w_xs_a6_0_0))) (c4_nn54 : NoNaN64 (FP.dsub (FP.dmul (FP.dsub x_w_xs_a6_0_1 x_w_xs_a6_0_0) (FP.dsub d6_2 x_w_ys_a6_0_0)) (FP.dmul (FP.dsub x_w_ys_a6_0_1 x_w_ys_a6_0_0) (FP.dsub d6_1 x_w_xs_a6_0_0)))) (c13_nn20 : NoNaN64 (FP.dsub x_w_xs_a6_0_2 x_w_xs_a6_0_1)) (c13_nn29 : NoNaN64 (FP.dsub d6_2 x_w_ys_a6_0_1)) (c13_nn30 : NoNaN64 (FP.dmul (FP.dsub x_w_xs_a6_0_2 x_w_xs_a6_0_1) (FP.dsub d6_2 x_w_ys_a6_0_1))) (c13_nn44 : NoNaN64 (FP.dsub x_w_ys_a6_0_2 x_w_ys_a6_0_1)) (c13_nn52 : NoNaN64 (FP.dsub d6_1 x_w_xs_a6_0_1)) (c13_nn53 : NoNaN64 (FP.dmul (FP.dsub x_w_ys_a6_0_2 x_w_ys_a6_0_1) (FP.dsub d6_1 x_w_xs_a6_0_1))) (c13_nn54 : NoNaN64 (FP.dsub (FP.dmul (FP.dsub x_w_xs_a6_0_2 x_w_xs_a6_0_1) (FP.dsub d6_2 x_w_ys_a6_0_1)) (FP.dmul (FP.dsub x_w_ys_a6_0_2 x_w_ys_a6_0_1) (FP.dsub d6_1 x_w_xs_a6_0_1)))) (c22_nn20 : NoNaN64 (FP.dsub x_w_xs_a6_0_0 x_w_xs_a6_0_2)) (c22_nn29 : NoNaN64 (FP.dsub d6_2 x_w_ys_a6_0_2)) (c22_nn30 : NoNaN64 (FP.dmul (FP.dsub x_w_xs_a6_0_0 x_w_xs_a6_0_2) (FP.dsub d6_2 x_w_ys_a6_0_2))) (c22_nn44 : NoNaN64 (FP.dsub x_w_ys_a6_0_0 x_w_ys_a6_0_2)) (c22_nn52 : NoNaN64 (FP.dsub d6_1 x_w_xs_a6_0_2)) (c22_nn53 : NoNaN64 (FP.dmul (FP.dsub x_w_ys_a6_0_0 x_w_ys_a6_0_2) (FP.dsub d6_1 x_w_xs_a6_0_2))) (c22_nn54 : NoNaN64 (FP.dsub (FP.dmul (FP.dsub x_w_xs_a6_0_0 x_w_xs_a6_0_2) (FP.dsub d6_2 x_w_ys_a6_0_2)) (FP.dmul (FP.dsub x_w_ys_a6_0_0 x_w_ys_a6_0_2) (FP.dsub d6_1 x_w_xs_a6_0_2)))) :
    MetFree l (⟨"com/example/wideberth/wideberth/maximin/Triangle", "contains", "(DD)Z"⟩ : MethodName) (head1 (Jvm.Cond.code (⟨"com/example/wideberth/wideberth/maximin/Triangle", "contains", "(DD)Z"⟩ : MethodName) prog_23_method_4_code 11 (some .boolean) :: ws) ({ frames := 1, cells := 0, slots := 0, locals := 18 } : Room)) (fun a U => a = #[(.ref a6_0), (.double d6_1), (.double d6_2)] ∧ Z.Warmed39 U.vm ∧ U.heap = h0) (fun _ _ _ _ _ => True) (fun _ U o U' => ∃ v L, o = .returned v ∧ own_Q6 Z a6_0 d6_1 d6_2 w_xs_a6_0 k_w_xs_a6_0 x_w_xs_a6_0_0 x_w_xs_a6_0_1 x_w_xs_a6_0_2 w_ys_a6_0 k_w_ys_a6_0 x_w_ys_a6_0_0 x_w_ys_a6_0_1 x_w_ys_a6_0_2 h0 n0 v U'.heap L ∧ FrameEnd U o U' L ({ frames := 1, cells := 0, slots := 0, locals := 18 } : Room).cells ({ frames := 1, cells := 0, slots := 0, locals := 18 } : Room).slots) := by
  refine MetFree.of_bodySF (plainFor_of_name own_pn1) hisR ?_
  intro p e s m args below meth c s₁ Bd hml0 hP hK
  obtain ⟨rfl, hZ, hh⟩ := hP
  have hx := Bd.exec
  have hby := Bd.bytes
  have hml : c.maxLocals = 11 := hml0
  have hown : s.vm.findClass "com/example/wideberth/wideberth/maximin/Triangle" = some m.cls := findClass_of_methodNamed Bd.named
  have hnm := (name_of_methodNamed Bd.named Bd.method).1
  have X0 : Stand p l e ({ frames := 1, cells := 0, slots := 0, locals := 18 } : Room) s m #[(.ref a6_0), (.double d6_1), (.double d6_2)] below meth c s₁ [] 0 0 := Stand.of_body Bd
  have e0 : s₁.heap = h0 := by rw [← hh, Bd.state]; rfl
  have N0 := Fr.nil n0
  have Zr : h0.size ≤ h0.size := Nat.le_refl _
  have pre0 : ∀ t, Steps p.tables e below (s₁.setTop (mkF m 0 #[.val (.ref a6_0), .val (.double d6_1), .second, .val (.double d6_2), .second, .unset, .unset, .unset, .unset, .unset, .unset] [])) t → Steps p.tables e below (s₁.setTop (entryFrame m #[(.ref a6_0), (.double d6_1), (.double d6_2)] 11)) t := fun t k => castTop (own_ef6 m a6_0 d6_1 d6_2) k
  obtain ⟨cqk6_1, qk6_1, qk6_1'⟩ := E_a6_0.cell
  obtain ⟨_, _, ⟨Tk6_1, Lk6_1, kk6_1, nk6_1⟩, -, Xk6_1, ⟨Lck6_1, hQk6_1, lk6_1, yk6_1, zk6_1⟩, stk6_1⟩ := X0.privateBack hx (y := (⟨"com/example/wideberth/wideberth/maximin/Triangle", "side", "(IDD)D"⟩ : MethodName)) hown (mvT hZ (hw _ (List.mem_of_getElem? (i := 30) rfl))) (mvT hZ (hw _ (List.mem_of_getElem? (i := 31) rfl))) (own_selP hZ (hw _ (List.mem_of_getElem? (i := 12) rfl)) (hw _ (List.mem_of_getElem? (i := 32) rfl)) (hw _ (List.mem_of_getElem? (i := 31) rfl)) (by decide)) (Cond.privateMethod_at (mvP hZ (hw _ (List.mem_of_getElem? (i := 32) rfl)) (args := #[]))) (mvT hZ (hw _ (List.mem_of_getElem? (i := 33) rfl))) (by decide) (backOf (W := 0) (own_rm7k0 l Z a0 hw [] a6_0 d6_1 d6_2 w_xs_a6_0 k_w_xs_a6_0 x_w_xs_a6_0_0 x_w_xs_a6_0_1 x_w_xs_a6_0_2 w_ys_a6_0 k_w_ys_a6_0 x_w_ys_a6_0_0 x_w_ys_a6_0_1 x_w_ys_a6_0_2 h0 n0 Z0 F_xs_a6_0 V_w_xs_a6_0 F_ys_a6_0 V_w_ys_a6_0 c4_nn20 c4_nn29 c4_nn30 c4_nn44 c4_nn52 c4_nn53 c4_nn54) hZ (hw _ (List.mem_of_getElem? (i := 33) rfl)) (hw _ (List.mem_of_getElem? (i := 13) rfl)) (by decide) (by decide)) (g := (mkF m 4 #[.val (.ref a6_0), .val (.double d6_1), .second, .val (.double d6_2), .second, .unset, .unset, .unset, .unset, .unset, .unset] [(.double d6_2), (.double d6_1), (.int (0 : Int32)), (.ref a6_0)])) rfl (by rw [hml]; rfl) (Steps.refl _) (a := a6_0) (by rw [e0]; exact qk6_1) qk6_1' (argsL := [(.int (0 : Int32)), (.double d6_1), (.double d6_2)]) (rest := []) (lenOf own_pd0 rfl) rfl (by show 2 * 0 + _ ≤ _; exact Nat.le_of_eq rfl) (hb hby own_d6_4) (fun _ _ => ⟨rfl, e0, (by decide : 0 + 0 ≤ _), (by decide : 0 + 0 ≤ _)⟩)
  dsimp only [Pt.U, Pt.locs, Pt.cells, Pt.slots] at Xk6_1 lk6_1 yk6_1 zk6_1 stk6_1 hQk6_1
  subst lk6_1 yk6_1 zk6_1
  obtain ⟨rfl, Nk6_1q, ek6_1⟩ := hQk6_1
  have Nk6_1 := Fr.app N0 Nk6_1q
  obtain ⟨cqk6_2, qk6_2, qk6_2'⟩ := E_a6_0.cell
  obtain ⟨_, _, ⟨Tk6_2, Lk6_2, kk6_2, nk6_2⟩, -, Xk6_2, ⟨Lck6_2, hQk6_2, lk6_2, yk6_2, zk6_2⟩, stk6_2⟩ := Xk6_1.privateBack hx (y := (⟨"com/example/wideberth/wideberth/maximin/Triangle", "side", "(IDD)D"⟩ : MethodName)) hown (mvT hZ (hw _ (List.mem_of_getElem? (i := 30) rfl))) (mvT hZ (hw _ (List.mem_of_getElem? (i := 31) rfl))) (own_selP hZ (hw _ (List.mem_of_getElem? (i := 12) rfl)) (hw _ (List.mem_of_getElem? (i := 32) rfl)) (hw _ (List.mem_of_getElem? (i := 31) rfl)) (by decide)) (Cond.privateMethod_at (mvP hZ (hw _ (List.mem_of_getElem? (i := 32) rfl)) (args := #[]))) (mvT hZ (hw _ (List.mem_of_getElem? (i := 33) rfl))) (by decide) (backOf (W := 0) (own_rm7k1 l Z a0 hw [] a6_0 d6_1 d6_2 w_xs_a6_0 k_w_xs_a6_0 x_w_xs_a6_0_0 x_w_xs_a6_0_1 x_w_xs_a6_0_2 w_ys_a6_0 k_w_ys_a6_0 x_w_ys_a6_0_0 x_w_ys_a6_0_1 x_w_ys_a6_0_2 h0 n0 Z0 F_xs_a6_0 V_w_xs_a6_0 F_ys_a6_0 V_w_ys_a6_0 c13_nn20 c13_nn29 c13_nn30 c13_nn44 c13_nn52 c13_nn53 c13_nn54) hZ (hw _ (List.mem_of_getElem? (i := 33) rfl)) (hw _ (List.mem_of_getElem? (i := 13) rfl)) (by decide) (by decide)) (g := (mkF m 13 #[.val (.ref a6_0), .val (.double d6_1), .second, .val (.double d6_2), .second, .val (.double (own_r7k0_0 d6_1 d6_2 x_w_xs_a6_0_0 x_w_xs_a6_0_1 x_w_ys_a6_0_0 x_w_ys_a6_0_1)), .second, .unset, .unset, .unset, .unset] [(.double d6_2), (.double d6_1), (.int (1 : Int32)), (.ref a6_0)])) rfl (by rw [hml]; rfl) (Steps.refl _) (a := a6_0) (by rw [ek6_1]; exact qk6_2) qk6_2' (argsL := [(.int (1 : Int32)), (.double d6_1), (.double d6_2)]) (rest := []) (lenOf own_pd0 rfl) rfl (by show 2 * 0 + _ ≤ _; exact Nat.le_of_eq rfl) (hb hby own_d6_13) (fun _ _ => ⟨rfl, ek6_1, (by decide : 0 + 0 ≤ _), (by decide : 0 + 0 ≤ _)⟩)
  dsimp only [Pt.U, Pt.locs, Pt.cells, Pt.slots] at Xk6_2 lk6_2 yk6_2 zk6_2 stk6_2 hQk6_2
  subst lk6_2 yk6_2 zk6_2
  obtain ⟨rfl, Nk6_2q, ek6_2⟩ := hQk6_2
  have Nk6_2 := Fr.app Nk6_1 Nk6_2q
  obtain ⟨cqk6_3, qk6_3, qk6_3'⟩ := E_a6_0.cell
  obtain ⟨_, _, ⟨Tk6_3, Lk6_3, kk6_3, nk6_3⟩, -, Xk6_3, ⟨Lck6_3, hQk6_3, lk6_3, yk6_3, zk6_3⟩, stk6_3⟩ := Xk6_2.privateBack hx (y := (⟨"com/example/wideberth/wideberth/maximin/Triangle", "side", "(IDD)D"⟩ : MethodName)) hown (mvT hZ (hw _ (List.mem_of_getElem? (i := 30) rfl))) (mvT hZ (hw _ (List.mem_of_getElem? (i := 31) rfl))) (own_selP hZ (hw _ (List.mem_of_getElem? (i := 12) rfl)) (hw _ (List.mem_of_getElem? (i := 32) rfl)) (hw _ (List.mem_of_getElem? (i := 31) rfl)) (by decide)) (Cond.privateMethod_at (mvP hZ (hw _ (List.mem_of_getElem? (i := 32) rfl)) (args := #[]))) (mvT hZ (hw _ (List.mem_of_getElem? (i := 33) rfl))) (by decide) (backOf (W := 0) (own_rm7k2 l Z a0 hw [] a6_0 d6_1 d6_2 w_xs_a6_0 k_w_xs_a6_0 x_w_xs_a6_0_0 x_w_xs_a6_0_1 x_w_xs_a6_0_2 w_ys_a6_0 k_w_ys_a6_0 x_w_ys_a6_0_0 x_w_ys_a6_0_1 x_w_ys_a6_0_2 h0 n0 Z0 F_xs_a6_0 V_w_xs_a6_0 F_ys_a6_0 V_w_ys_a6_0 c22_nn20 c22_nn29 c22_nn30 c22_nn44 c22_nn52 c22_nn53 c22_nn54) hZ (hw _ (List.mem_of_getElem? (i := 33) rfl)) (hw _ (List.mem_of_getElem? (i := 13) rfl)) (by decide) (by decide)) (g := (mkF m 22 #[.val (.ref a6_0), .val (.double d6_1), .second, .val (.double d6_2), .second, .val (.double (own_r7k0_0 d6_1 d6_2 x_w_xs_a6_0_0 x_w_xs_a6_0_1 x_w_ys_a6_0_0 x_w_ys_a6_0_1)), .second, .val (.double (own_r7k1_0 d6_1 d6_2 x_w_xs_a6_0_1 x_w_xs_a6_0_2 x_w_ys_a6_0_1 x_w_ys_a6_0_2)), .second, .unset, .unset] [(.double d6_2), (.double d6_1), (.int (2 : Int32)), (.ref a6_0)])) rfl (by rw [hml]; rfl) (Steps.refl _) (a := a6_0) (by rw [ek6_2]; exact qk6_3) qk6_3' (argsL := [(.int (2 : Int32)), (.double d6_1), (.double d6_2)]) (rest := []) (lenOf own_pd0 rfl) rfl (by show 2 * 0 + _ ≤ _; exact Nat.le_of_eq rfl) (hb hby own_d6_22) (fun _ _ => ⟨rfl, ek6_2, (by decide : 0 + 0 ≤ _), (by decide : 0 + 0 ≤ _)⟩)
  dsimp only [Pt.U, Pt.locs, Pt.cells, Pt.slots] at Xk6_3 lk6_3 yk6_3 zk6_3 stk6_3 hQk6_3
  subst lk6_3 yk6_3 zk6_3
  obtain ⟨rfl, Nk6_3q, ek6_3⟩ := hQk6_3
  have Nk6_3 := Fr.app Nk6_2 Nk6_3q
  obtain ⟨Tj6_4, lj6_4, Xj6_4, Nj6_4, ej6_4, stj6_4⟩ : ∃ (T' : State) (l' : List Loc), Stand p l e ({ frames := 1, cells := 0, slots := 0, locals := 18 } : Room) s m #[(.ref a6_0), (.double d6_1), (.double d6_2)] below meth c T' l' 0 0 ∧ Fr n0 l' ∧ T'.heap = h0 ∧ ∀ target, Steps p.tables e below (T'.setTop (mkF m 74 #[.val (.ref a6_0), .val (.double d6_1), .second, .val (.double d6_2), .second, .val (.double (own_r7k0_0 d6_1 d6_2 x_w_xs_a6_0_0 x_w_xs_a6_0_1 x_w_ys_a6_0_0 x_w_ys_a6_0_1)), .second, .val (.double (own_r7k1_0 d6_1 d6_2 x_w_xs_a6_0_1 x_w_xs_a6_0_2 x_w_ys_a6_0_1 x_w_ys_a6_0_2)), .second, .val (.double (own_r7k2_0 d6_1 d6_2 x_w_xs_a6_0_0 x_w_xs_a6_0_2 x_w_ys_a6_0_0 x_w_ys_a6_0_2)), .second] [(.int (own_j6_5 d6_1 d6_2 x_w_xs_a6_0_0 x_w_xs_a6_0_1 x_w_xs_a6_0_2 x_w_ys_a6_0_0 x_w_ys_a6_0_1 x_w_ys_a6_0_2))])) target → Steps p.tables e below (Tk6_3.setTop (mkF m 31 #[.val (.ref a6_0), .val (.double d6_1), .second, .val (.double d6_2), .second, .val (.double (own_r7k0_0 d6_1 d6_2 x_w_xs_a6_0_0 x_w_xs_a6_0_1 x_w_ys_a6_0_0 x_w_ys_a6_0_1)), .second, .val (.double (own_r7k1_0 d6_1 d6_2 x_w_xs_a6_0_1 x_w_xs_a6_0_2 x_w_ys_a6_0_1 x_w_ys_a6_0_2)), .second, .val (.double (own_r7k2_0 d6_1 d6_2 x_w_xs_a6_0_0 x_w_xs_a6_0_2 x_w_ys_a6_0_0 x_w_ys_a6_0_2)), .second] [(.int (cmpValue (FP.dcmp (own_r7k0_0 d6_1 d6_2 x_w_xs_a6_0_0 x_w_xs_a6_0_1 x_w_ys_a6_0_0 x_w_ys_a6_0_1) (0 : UInt64)) .l))])) target := by
    by_cases hj6_4 : (cmpValue (FP.dcmp (own_r7k0_0 d6_1 d6_2 x_w_xs_a6_0_0 x_w_xs_a6_0_1 x_w_ys_a6_0_0 x_w_ys_a6_0_1) (0 : UInt64)) .l) < (0 : Int32)
    · obtain ⟨Tj6_5, lj6_5, Xj6_5, Nj6_5, ej6_5, stj6_5⟩ : ∃ (T' : State) (l' : List Loc), Stand p l e ({ frames := 1, cells := 0, slots := 0, locals := 18 } : Room) s m #[(.ref a6_0), (.double d6_1), (.double d6_2)] below meth c T' l' 0 0 ∧ Fr n0 l' ∧ T'.heap = h0 ∧ ∀ target, Steps p.tables e below (T'.setTop (mkF m 74 #[.val (.ref a6_0), .val (.double d6_1), .second, .val (.double d6_2), .second, .val (.double (own_r7k0_0 d6_1 d6_2 x_w_xs_a6_0_0 x_w_xs_a6_0_1 x_w_ys_a6_0_0 x_w_ys_a6_0_1)), .second, .val (.double (own_r7k1_0 d6_1 d6_2 x_w_xs_a6_0_1 x_w_xs_a6_0_2 x_w_ys_a6_0_1 x_w_ys_a6_0_2)), .second, .val (.double (own_r7k2_0 d6_1 d6_2 x_w_xs_a6_0_0 x_w_xs_a6_0_2 x_w_ys_a6_0_0 x_w_ys_a6_0_2)), .second] [(.int (own_j6_2 d6_1 d6_2 x_w_xs_a6_0_0 x_w_xs_a6_0_1 x_w_xs_a6_0_2 x_w_ys_a6_0_0 x_w_ys_a6_0_1 x_w_ys_a6_0_2))])) target → Steps p.tables e below (Tk6_3.setTop (mkF m 52 #[.val (.ref a6_0), .val (.double d6_1), .second, .val (.double d6_2), .second, .val (.double (own_r7k0_0 d6_1 d6_2 x_w_xs_a6_0_0 x_w_xs_a6_0_1 x_w_ys_a6_0_0 x_w_ys_a6_0_1)), .second, .val (.double (own_r7k1_0 d6_1 d6_2 x_w_xs_a6_0_1 x_w_xs_a6_0_2 x_w_ys_a6_0_1 x_w_ys_a6_0_2)), .second, .val (.double (own_r7k2_0 d6_1 d6_2 x_w_xs_a6_0_0 x_w_xs_a6_0_2 x_w_ys_a6_0_0 x_w_ys_a6_0_2)), .second] [(.int (cmpValue (FP.dcmp (own_r7k0_0 d6_1 d6_2 x_w_xs_a6_0_0 x_w_xs_a6_0_1 x_w_ys_a6_0_0 x_w_ys_a6_0_1) (0 : UInt64)) .g))])) target := by
        by_cases hj6_5 : (0 : Int32) < (cmpValue (FP.dcmp (own_r7k0_0 d6_1 d6_2 x_w_xs_a6_0_0 x_w_xs_a6_0_1 x_w_ys_a6_0_0 x_w_ys_a6_0_1) (0 : UInt64)) .g)
        · refine ⟨_, _, Xk6_3, Nk6_3, ek6_3, fun target kt => ?_⟩
          rw [(show (own_j6_2 d6_1 d6_2 x_w_xs_a6_0_0 x_w_xs_a6_0_1 x_w_xs_a6_0_2 x_w_ys_a6_0_0 x_w_ys_a6_0_1 x_w_ys_a6_0_2) = (0 : Int32) from if_pos hj6_5)] at kt
          show Steps p.tables e below (Tk6_3.setTop (mkF m 52 #[.val (.ref a6_0), .val (.double d6_1), .second, .val (.double d6_2), .second, .val (.double (own_r7k0_0 d6_1 d6_2 x_w_xs_a6_0_0 x_w_xs_a6_0_1 x_w_ys_a6_0_0 x_w_ys_a6_0_1)), .second, .val (.double (own_r7k1_0 d6_1 d6_2 x_w_xs_a6_0_1 x_w_xs_a6_0_2 x_w_ys_a6_0_1 x_w_ys_a6_0_2)), .second, .val (.double (own_r7k2_0 d6_1 d6_2 x_w_xs_a6_0_0 x_w_xs_a6_0_2 x_w_ys_a6_0_0 x_w_ys_a6_0_2)), .second] [(.int (cmpValue (FP.dcmp (own_r7k0_0 d6_1 d6_2 x_w_xs_a6_0_0 x_w_xs_a6_0_1 x_w_ys_a6_0_0 x_w_ys_a6_0_1) (0 : UInt64)) .g))])) _
          refine XS.ifYes Xk6_3.here hx rfl (pc0 := 52) (pc' := 73) rfl (hb hby own_d6_52) rfl (XT.i0_gt_t hj6_5) (by decide) (by decide) ?_
          show Steps p.tables e below (Tk6_3.setTop (mkF m 73 #[.val (.ref a6_0), .val (.double d6_1), .second, .val (.double d6_2), .second, .val (.double (own_r7k0_0 d6_1 d6_2 x_w_xs_a6_0_0 x_w_xs_a6_0_1 x_w_ys_a6_0_0 x_w_ys_a6_0_1)), .second, .val (.double (own_r7k1_0 d6_1 d6_2 x_w_xs_a6_0_1 x_w_xs_a6_0_2 x_w_ys_a6_0_1 x_w_ys_a6_0_2)), .second, .val (.double (own_r7k2_0 d6_1 d6_2 x_w_xs_a6_0_0 x_w_xs_a6_0_2 x_w_ys_a6_0_0 x_w_ys_a6_0_2)), .second] [])) _
          refine XS.iconst Xk6_3.here hx rfl (hb hby own_d6_73) ?_
          exact kt
        · obtain ⟨Tj6_6, lj6_6, Xj6_6, Nj6_6, ej6_6, stj6_6⟩ : ∃ (T' : State) (l' : List Loc), Stand p l e ({ frames := 1, cells := 0, slots := 0, locals := 18 } : Room) s m #[(.ref a6_0), (.double d6_1), (.double d6_2)] below meth c T' l' 0 0 ∧ Fr n0 l' ∧ T'.heap = h0 ∧ ∀ target, Steps p.tables e below (T'.setTop (mkF m 74 #[.val (.ref a6_0), .val (.double d6_1), .second, .val (.double d6_2), .second, .val (.double (own_r7k0_0 d6_1 d6_2 x_w_xs_a6_0_0 x_w_xs_a6_0_1 x_w_ys_a6_0_0 x_w_ys_a6_0_1)), .second, .val (.double (own_r7k1_0 d6_1 d6_2 x_w_xs_a6_0_1 x_w_xs_a6_0_2 x_w_ys_a6_0_1 x_w_ys_a6_0_2)), .second, .val (.double (own_r7k2_0 d6_1 d6_2 x_w_xs_a6_0_0 x_w_xs_a6_0_2 x_w_ys_a6_0_0 x_w_ys_a6_0_2)), .second] [(.int (own_j6_1 d6_1 d6_2 x_w_xs_a6_0_0 x_w_xs_a6_0_1 x_w_xs_a6_0_2 x_w_ys_a6_0_0 x_w_ys_a6_0_1 x_w_ys_a6_0_2))])) target → Steps p.tables e below (Tk6_3.setTop (mkF m 59 #[.val (.ref a6_0), .val (.double d6_1), .second, .val (.double d6_2), .second, .val (.double (own_r7k0_0 d6_1 d6_2 x_w_xs_a6_0_0 x_w_xs_a6_0_1 x_w_ys_a6_0_0 x_w_ys_a6_0_1)), .second, .val (.double (own_r7k1_0 d6_1 d6_2 x_w_xs_a6_0_1 x_w_xs_a6_0_2 x_w_ys_a6_0_1 x_w_ys_a6_0_2)), .second, .val (.double (own_r7k2_0 d6_1 d6_2 x_w_xs_a6_0_0 x_w_xs_a6_0_2 x_w_ys_a6_0_0 x_w_ys_a6_0_2)), .second] [(.int (cmpValue (FP.dcmp (own_r7k1_0 d6_1 d6_2 x_w_xs_a6_0_1 x_w_xs_a6_0_2 x_w_ys_a6_0_1 x_w_ys_a6_0_2) (0 : UInt64)) .g))])) target := by
            by_cases hj6_6 : (0 : Int32) < (cmpValue (FP.dcmp (own_r7k1_0 d6_1 d6_2 x_w_xs_a6_0_1 x_w_xs_a6_0_2 x_w_ys_a6_0_1 x_w_ys_a6_0_2) (0 : UInt64)) .g)
            · refine ⟨_, _, Xk6_3, Nk6_3, ek6_3, fun target kt => ?_⟩
              rw [(show (own_j6_1 d6_1 d6_2 x_w_xs_a6_0_0 x_w_xs_a6_0_1 x_w_xs_a6_0_2 x_w_ys_a6_0_0 x_w_ys_a6_0_1 x_w_ys_a6_0_2) = (0 : Int32) from if_pos hj6_6)] at kt
              show Steps p.tables e below (Tk6_3.setTop (mkF m 59 #[.val (.ref a6_0), .val (.double d6_1), .second, .val (.double d6_2), .second, .val (.double (own_r7k0_0 d6_1 d6_2 x_w_xs_a6_0_0 x_w_xs_a6_0_1 x_w_ys_a6_0_0 x_w_ys_a6_0_1)), .second, .val (.double (own_r7k1_0 d6_1 d6_2 x_w_xs_a6_0_1 x_w_xs_a6_0_2 x_w_ys_a6_0_1 x_w_ys_a6_0_2)), .second, .val (.double (own_r7k2_0 d6_1 d6_2 x_w_xs_a6_0_0 x_w_xs_a6_0_2 x_w_ys_a6_0_0 x_w_ys_a6_0_2)), .second] [(.int (cmpValue (FP.dcmp (own_r7k1_0 d6_1 d6_2 x_w_xs_a6_0_1 x_w_xs_a6_0_2 x_w_ys_a6_0_1 x_w_ys_a6_0_2) (0 : UInt64)) .g))])) _
              refine XS.ifYes Xk6_3.here hx rfl (pc0 := 59) (pc' := 73) rfl (hb hby own_d6_59) rfl (XT.i0_gt_t hj6_6) (by decide) (by decide) ?_
              show Steps p.tables e below (Tk6_3.setTop (mkF m 73 #[.val (.ref a6_0), .val (.double d6_1), .second, .val (.double d6_2), .second, .val (.double (own_r7k0_0 d6_1 d6_2 x_w_xs_a6_0_0 x_w_xs_a6_0_1 x_w_ys_a6_0_0 x_w_ys_a6_0_1)), .second, .val (.double (own_r7k1_0 d6_1 d6_2 x_w_xs_a6_0_1 x_w_xs_a6_0_2 x_w_ys_a6_0_1 x_w_ys_a6_0_2)), .second, .val (.double (own_r7k2_0 d6_1 d6_2 x_w_xs_a6_0_0 x_w_xs_a6_0_2 x_w_ys_a6_0_0 x_w_ys_a6_0_2)), .second] [])) _
              refine XS.iconst Xk6_3.here hx rfl (hb hby own_d6_73) ?_
              exact kt
            · obtain ⟨Tj6_7, lj6_7, Xj6_7, Nj6_7, ej6_7, stj6_7⟩ : ∃ (T' : State) (l' : List Loc), Stand p l e ({ frames := 1, cells := 0, slots := 0, locals := 18 } : Room) s m #[(.ref a6_0), (.double d6_1), (.double d6_2)] below meth c T' l' 0 0 ∧ Fr n0 l' ∧ T'.heap = h0 ∧ ∀ target, Steps p.tables e below (T'.setTop (mkF m 74 #[.val (.ref a6_0), .val (.double d6_1), .second, .val (.double d6_2), .second, .val (.double (own_r7k0_0 d6_1 d6_2 x_w_xs_a6_0_0 x_w_xs_a6_0_1 x_w_ys_a6_0_0 x_w_ys_a6_0_1)), .second, .val (.double (own_r7k1_0 d6_1 d6_2 x_w_xs_a6_0_1 x_w_xs_a6_0_2 x_w_ys_a6_0_1 x_w_ys_a6_0_2)), .second, .val (.double (own_r7k2_0 d6_1 d6_2 x_w_xs_a6_0_0 x_w_xs_a6_0_2 x_w_ys_a6_0_0 x_w_ys_a6_0_2)), .second] [(.int (own_j6_0 d6_1 d6_2 x_w_xs_a6_0_0 x_w_xs_a6_0_2 x_w_ys_a6_0_0 x_w_ys_a6_0_2))])) target → Steps p.tables e below (Tk6_3.setTop (mkF m 66 #[.val (.ref a6_0), .val (.double d6_1), .second, .val (.double d6_2), .second, .val (.double (own_r7k0_0 d6_1 d6_2 x_w_xs_a6_0_0 x_w_xs_a6_0_1 x_w_ys_a6_0_0 x_w_ys_a6_0_1)), .second, .val (.double (own_r7k1_0 d6_1 d6_2 x_w_xs_a6_0_1 x_w_xs_a6_0_2 x_w_ys_a6_0_1 x_w_ys_a6_0_2)), .second, .val (.double (own_r7k2_0 d6_1 d6_2 x_w_xs_a6_0_0 x_w_xs_a6_0_2 x_w_ys_a6_0_0 x_w_ys_a6_0_2)), .second] [(.int (cmpValue (FP.dcmp (own_r7k2_0 d6_1 d6_2 x_w_xs_a6_0_0 x_w_xs_a6_0_2 x_w_ys_a6_0_0 x_w_ys_a6_0_2) (0 : UInt64)) .g))])) target := by
                by_cases hj6_7 : (0 : Int32) < (cmpValue (FP.dcmp (own_r7k2_0 d6_1 d6_2 x_w_xs_a6_0_0 x_w_xs_a6_0_2 x_w_ys_a6_0_0 x_w_ys_a6_0_2) (0 : UInt64)) .g)
                · refine ⟨_, _, Xk6_3, Nk6_3, ek6_3, fun target kt => ?_⟩
                  rw [(show (own_j6_0 d6_1 d6_2 x_w_xs_a6_0_0 x_w_xs_a6_0_2 x_w_ys_a6_0_0 x_w_ys_a6_0_2) = (0 : Int32) from if_pos hj6_7)] at kt
                  show Steps p.tables e below (Tk6_3.setTop (mkF m 66 #[.val (.ref a6_0), .val (.double d6_1), .second, .val (.double d6_2), .second, .val (.double (own_r7k0_0 d6_1 d6_2 x_w_xs_a6_0_0 x_w_xs_a6_0_1 x_w_ys_a6_0_0 x_w_ys_a6_0_1)), .second, .val (.double (own_r7k1_0 d6_1 d6_2 x_w_xs_a6_0_1 x_w_xs_a6_0_2 x_w_ys_a6_0_1 x_w_ys_a6_0_2)), .second, .val (.double (own_r7k2_0 d6_1 d6_2 x_w_xs_a6_0_0 x_w_xs_a6_0_2 x_w_ys_a6_0_0 x_w_ys_a6_0_2)), .second] [(.int (cmpValue (FP.dcmp (own_r7k2_0 d6_1 d6_2 x_w_xs_a6_0_0 x_w_xs_a6_0_2 x_w_ys_a6_0_0 x_w_ys_a6_0_2) (0 : UInt64)) .g))])) _
                  refine XS.ifYes Xk6_3.here hx rfl (pc0 := 66) (pc' := 73) rfl (hb hby own_d6_66) rfl (XT.i0_gt_t hj6_7) (by decide) (by decide) ?_
                  show Steps p.tables e below (Tk6_3.setTop (mkF m 73 #[.val (.ref a6_0), .val (.double d6_1), .second, .val (.double d6_2), .second, .val (.double (own_r7k0_0 d6_1 d6_2 x_w_xs_a6_0_0 x_w_xs_a6_0_1 x_w_ys_a6_0_0 x_w_ys_a6_0_1)), .second, .val (.double (own_r7k1_0 d6_1 d6_2 x_w_xs_a6_0_1 x_w_xs_a6_0_2 x_w_ys_a6_0_1 x_w_ys_a6_0_2)), .second, .val (.double (own_r7k2_0 d6_1 d6_2 x_w_xs_a6_0_0 x_w_xs_a6_0_2 x_w_ys_a6_0_0 x_w_ys_a6_0_2)), .second] [])) _
                  refine XS.iconst Xk6_3.here hx rfl (hb hby own_d6_73) ?_
                  exact kt
                · refine ⟨_, _, Xk6_3, Nk6_3, ek6_3, fun target kt => ?_⟩
                  rw [(show (own_j6_0 d6_1 d6_2 x_w_xs_a6_0_0 x_w_xs_a6_0_2 x_w_ys_a6_0_0 x_w_ys_a6_0_2) = (1 : Int32) from if_neg hj6_7)] at kt
                  show Steps p.tables e below (Tk6_3.setTop (mkF m 66 #[.val (.ref a6_0), .val (.double d6_1), .second, .val (.double d6_2), .second, .val (.double (own_r7k0_0 d6_1 d6_2 x_w_xs_a6_0_0 x_w_xs_a6_0_1 x_w_ys_a6_0_0 x_w_ys_a6_0_1)), .second, .val (.double (own_r7k1_0 d6_1 d6_2 x_w_xs_a6_0_1 x_w_xs_a6_0_2 x_w_ys_a6_0_1 x_w_ys_a6_0_2)), .second, .val (.double (own_r7k2_0 d6_1 d6_2 x_w_xs_a6_0_0 x_w_xs_a6_0_2 x_w_ys_a6_0_0 x_w_ys_a6_0_2)), .second] [(.int (cmpValue (FP.dcmp (own_r7k2_0 d6_1 d6_2 x_w_xs_a6_0_0 x_w_xs_a6_0_2 x_w_ys_a6_0_0 x_w_ys_a6_0_2) (0 : UInt64)) .g))])) _
                  refine XS.ifNo Xk6_3.here hx rfl (hb hby own_d6_66) rfl (XT.i0_gt_f hj6_7) ?_
                  show Steps p.tables e below (Tk6_3.setTop (mkF m 69 #[.val (.ref a6_0), .val (.double d6_1), .second, .val (.double d6_2), .second, .val (.double (own_r7k0_0 d6_1 d6_2 x_w_xs_a6_0_0 x_w_xs_a6_0_1 x_w_ys_a6_0_0 x_w_ys_a6_0_1)), .second, .val (.double (own_r7k1_0 d6_1 d6_2 x_w_xs_a6_0_1 x_w_xs_a6_0_2 x_w_ys_a6_0_1 x_w_ys_a6_0_2)), .second, .val (.double (own_r7k2_0 d6_1 d6_2 x_w_xs_a6_0_0 x_w_xs_a6_0_2 x_w_ys_a6_0_0 x_w_ys_a6_0_2)), .second] [])) _
                  refine XS.iconst Xk6_3.here hx rfl (hb hby own_d6_69) ?_
                  show Steps p.tables e below (Tk6_3.setTop (mkF m 70 #[.val (.ref a6_0), .val (.double d6_1), .second, .val (.double d6_2), .second, .val (.double (own_r7k0_0 d6_1 d6_2 x_w_xs_a6_0_0 x_w_xs_a6_0_1 x_w_ys_a6_0_0 x_w_ys_a6_0_1)), .second, .val (.double (own_r7k1_0 d6_1 d6_2 x_w_xs_a6_0_1 x_w_xs_a6_0_2 x_w_ys_a6_0_1 x_w_ys_a6_0_2)), .second, .val (.double (own_r7k2_0 d6_1 d6_2 x_w_xs_a6_0_0 x_w_xs_a6_0_2 x_w_ys_a6_0_0 x_w_ys_a6_0_2)), .second] [(.int (1 : Int32))])) _
                  refine XS.goto Xk6_3.here hx rfl (pc0 := 70) (pc' := 74) rfl (hb hby own_d6_70) (by decide) (by decide) ?_
                  exact kt
              refine ⟨_, _, Xj6_7, Nj6_7, ej6_7, fun target kt => ?_⟩
              rw [(show (own_j6_1 d6_1 d6_2 x_w_xs_a6_0_0 x_w_xs_a6_0_1 x_w_xs_a6_0_2 x_w_ys_a6_0_0 x_w_ys_a6_0_1 x_w_ys_a6_0_2) = (own_j6_0 d6_1 d6_2 x_w_xs_a6_0_0 x_w_xs_a6_0_2 x_w_ys_a6_0_0 x_w_ys_a6_0_2) from if_neg hj6_6)] at kt
              show Steps p.tables e below (Tk6_3.setTop (mkF m 59 #[.val (.ref a6_0), .val (.double d6_1), .second, .val (.double d6_2), .second, .val (.double (own_r7k0_0 d6_1 d6_2 x_w_xs_a6_0_0 x_w_xs_a6_0_1 x_w_ys_a6_0_0 x_w_ys_a6_0_1)), .second, .val (.double (own_r7k1_0 d6_1 d6_2 x_w_xs_a6_0_1 x_w_xs_a6_0_2 x_w_ys_a6_0_1 x_w_ys_a6_0_2)), .second, .val (.double (own_r7k2_0 d6_1 d6_2 x_w_xs_a6_0_0 x_w_xs_a6_0_2 x_w_ys_a6_0_0 x_w_ys_a6_0_2)), .second] [(.int (cmpValue (FP.dcmp (own_r7k1_0 d6_1 d6_2 x_w_xs_a6_0_1 x_w_xs_a6_0_2 x_w_ys_a6_0_1 x_w_ys_a6_0_2) (0 : UInt64)) .g))])) _
              refine XS.ifNo Xk6_3.here hx rfl (hb hby own_d6_59) rfl (XT.i0_gt_f hj6_6) ?_
              show Steps p.tables e below (Tk6_3.setTop (mkF m 62 #[.val (.ref a6_0), .val (.double d6_1), .second, .val (.double d6_2), .second, .val (.double (own_r7k0_0 d6_1 d6_2 x_w_xs_a6_0_0 x_w_xs_a6_0_1 x_w_ys_a6_0_0 x_w_ys_a6_0_1)), .second, .val (.double (own_r7k1_0 d6_1 d6_2 x_w_xs_a6_0_1 x_w_xs_a6_0_2 x_w_ys_a6_0_1 x_w_ys_a6_0_2)), .second, .val (.double (own_r7k2_0 d6_1 d6_2 x_w_xs_a6_0_0 x_w_xs_a6_0_2 x_w_ys_a6_0_0 x_w_ys_a6_0_2)), .second] [])) _
              refine XS.dload Xk6_3.here hx rfl (hb hby own_d6_62) rfl ?_
              show Steps p.tables e below (Tk6_3.setTop (mkF m 64 #[.val (.ref a6_0), .val (.double d6_1), .second, .val (.double d6_2), .second, .val (.double (own_r7k0_0 d6_1 d6_2 x_w_xs_a6_0_0 x_w_xs_a6_0_1 x_w_ys_a6_0_0 x_w_ys_a6_0_1)), .second, .val (.double (own_r7k1_0 d6_1 d6_2 x_w_xs_a6_0_1 x_w_xs_a6_0_2 x_w_ys_a6_0_1 x_w_ys_a6_0_2)), .second, .val (.double (own_r7k2_0 d6_1 d6_2 x_w_xs_a6_0_0 x_w_xs_a6_0_2 x_w_ys_a6_0_0 x_w_ys_a6_0_2)), .second] [(.double (own_r7k2_0 d6_1 d6_2 x_w_xs_a6_0_0 x_w_xs_a6_0_2 x_w_ys_a6_0_0 x_w_ys_a6_0_2))])) _
              refine XS.dconst0 Xk6_3.here hx rfl (hb hby own_d6_64) (v := (0 : UInt64)) (by decide +kernel) ?_
              show Steps p.tables e below (Tk6_3.setTop (mkF m 65 #[.val (.ref a6_0), .val (.double d6_1), .second, .val (.double d6_2), .second, .val (.double (own_r7k0_0 d6_1 d6_2 x_w_xs_a6_0_0 x_w_xs_a6_0_1 x_w_ys_a6_0_0 x_w_ys_a6_0_1)), .second, .val (.double (own_r7k1_0 d6_1 d6_2 x_w_xs_a6_0_1 x_w_xs_a6_0_2 x_w_ys_a6_0_1 x_w_ys_a6_0_2)), .second, .val (.double (own_r7k2_0 d6_1 d6_2 x_w_xs_a6_0_0 x_w_xs_a6_0_2 x_w_ys_a6_0_0 x_w_ys_a6_0_2)), .second] [(.double (0 : UInt64)), (.double (own_r7k2_0 d6_1 d6_2 x_w_xs_a6_0_0 x_w_xs_a6_0_2 x_w_ys_a6_0_0 x_w_ys_a6_0_2))])) _
              refine XS.dcmpS Xk6_3.here hx rfl (hb hby own_d6_65) rfl rfl ?_
              show Steps p.tables e below (Tk6_3.setTop (mkF m 66 #[.val (.ref a6_0), .val (.double d6_1), .second, .val (.double d6_2), .second, .val (.double (own_r7k0_0 d6_1 d6_2 x_w_xs_a6_0_0 x_w_xs_a6_0_1 x_w_ys_a6_0_0 x_w_ys_a6_0_1)), .second, .val (.double (own_r7k1_0 d6_1 d6_2 x_w_xs_a6_0_1 x_w_xs_a6_0_2 x_w_ys_a6_0_1 x_w_ys_a6_0_2)), .second, .val (.double (own_r7k2_0 d6_1 d6_2 x_w_xs_a6_0_0 x_w_xs_a6_0_2 x_w_ys_a6_0_0 x_w_ys_a6_0_2)), .second] [(.int (cmpValue (FP.dcmp (own_r7k2_0 d6_1 d6_2 x_w_xs_a6_0_0 x_w_xs_a6_0_2 x_w_ys_a6_0_0 x_w_ys_a6_0_2) (0 : UInt64)) .g))])) _
              refine stj6_7 _ ?_
              exact kt
          refine ⟨_, _, Xj6_6, Nj6_6, ej6_6, fun target kt => ?_⟩
          rw [(show (own_j6_2 d6_1 d6_2 x_w_xs_a6_0_0 x_w_xs_a6_0_1 x_w_xs_a6_0_2 x_w_ys_a6_0_0 x_w_ys_a6_0_1 x_w_ys_a6_0_2) = (own_j6_1 d6_1 d6_2 x_w_xs_a6_0_0 x_w_xs_a6_0_1 x_w_xs_a6_0_2 x_w_ys_a6_0_0 x_w_ys_a6_0_1 x_w_ys_a6_0_2) from if_neg hj6_5)] at kt
          show Steps p.tables e below (Tk6_3.setTop (mkF m 52 #[.val (.ref a6_0), .val (.double d6_1), .second, .val (.double d6_2), .second, .val (.double (own_r7k0_0 d6_1 d6_2 x_w_xs_a6_0_0 x_w_xs_a6_0_1 x_w_ys_a6_0_0 x_w_ys_a6_0_1)), .second, .val (.double (own_r7k1_0 d6_1 d6_2 x_w_xs_a6_0_1 x_w_xs_a6_0_2 x_w_ys_a6_0_1 x_w_ys_a6_0_2)), .second, .val (.double (own_r7k2_0 d6_1 d6_2 x_w_xs_a6_0_0 x_w_xs_a6_0_2 x_w_ys_a6_0_0 x_w_ys_a6_0_2)), .second] [(.int (cmpValue (FP.dcmp (own_r7k0_0 d6_1 d6_2 x_w_xs_a6_0_0 x_w_xs_a6_0_1 x_w_ys_a6_0_0 x_w_ys_a6_0_1) (0 : UInt64)) .g))])) _
          refine XS.ifNo Xk6_3.here hx rfl (hb hby own_d6_52) rfl (XT.i0_gt_f hj6_5) ?_
          show Steps p.tables e below (Tk6_3.setTop (mkF m 55 #[.val (.ref a6_0), .val (.double d6_1), .second, .val (.double d6_2), .second, .val (.double (own_r7k0_0 d6_1 d6_2 x_w_xs_a6_0_0 x_w_xs_a6_0_1 x_w_ys_a6_0_0 x_w_ys_a6_0_1)), .second, .val (.double (own_r7k1_0 d6_1 d6_2 x_w_xs_a6_0_1 x_w_xs_a6_0_2 x_w_ys_a6_0_1 x_w_ys_a6_0_2)), .second, .val (.double (own_r7k2_0 d6_1 d6_2 x_w_xs_a6_0_0 x_w_xs_a6_0_2 x_w_ys_a6_0_0 x_w_ys_a6_0_2)), .second] [])) _
          refine XS.dload Xk6_3.here hx rfl (hb hby own_d6_55) rfl ?_
          show Steps p.tables e below (Tk6_3.setTop (mkF m 57 #[.val (.ref a6_0), .val (.double d6_1), .second, .val (.double d6_2), .second, .val (.double (own_r7k0_0 d6_1 d6_2 x_w_xs_a6_0_0 x_w_xs_a6_0_1 x_w_ys_a6_0_0 x_w_ys_a6_0_1)), .second, .val (.double (own_r7k1_0 d6_1 d6_2 x_w_xs_a6_0_1 x_w_xs_a6_0_2 x_w_ys_a6_0_1 x_w_ys_a6_0_2)), .second, .val (.double (own_r7k2_0 d6_1 d6_2 x_w_xs_a6_0_0 x_w_xs_a6_0_2 x_w_ys_a6_0_0 x_w_ys_a6_0_2)), .second] [(.double (own_r7k1_0 d6_1 d6_2 x_w_xs_a6_0_1 x_w_xs_a6_0_2 x_w_ys_a6_0_1 x_w_ys_a6_0_2))])) _
          refine XS.dconst0 Xk6_3.here hx rfl (hb hby own_d6_57) (v := (0 : UInt64)) (by decide +kernel) ?_
          show Steps p.tables e below (Tk6_3.setTop (mkF m 58 #[.val (.ref a6_0), .val (.double d6_1), .second, .val (.double d6_2), .second, .val (.double (own_r7k0_0 d6_1 d6_2 x_w_xs_a6_0_0 x_w_xs_a6_0_1 x_w_ys_a6_0_0 x_w_ys_a6_0_1)), .second, .val (.double (own_r7k1_0 d6_1 d6_2 x_w_xs_a6_0_1 x_w_xs_a6_0_2 x_w_ys_a6_0_1 x_w_ys_a6_0_2)), .second, .val (.double (own_r7k2_0 d6_1 d6_2 x_w_xs_a6_0_0 x_w_xs_a6_0_2 x_w_ys_a6_0_0 x_w_ys_a6_0_2)), .second] [(.double (0 : UInt64)), (.double (own_r7k1_0 d6_1 d6_2 x_w_xs_a6_0_1 x_w_xs_a6_0_2 x_w_ys_a6_0_1 x_w_ys_a6_0_2))])) _
          refine XS.dcmpS Xk6_3.here hx rfl (hb hby own_d6_58) rfl rfl ?_
          show Steps p.tables e below (Tk6_3.setTop (mkF m 59 #[.val (.ref a6_0), .val (.double d6_1), .second, .val (.double d6_2), .second, .val (.double (own_r7k0_0 d6_1 d6_2 x_w_xs_a6_0_0 x_w_xs_a6_0_1 x_w_ys_a6_0_0 x_w_ys_a6_0_1)), .second, .val (.double (own_r7k1_0 d6_1 d6_2 x_w_xs_a6_0_1 x_w_xs_a6_0_2 x_w_ys_a6_0_1 x_w_ys_a6_0_2)), .second, .val (.double (own_r7k2_0 d6_1 d6_2 x_w_xs_a6_0_0 x_w_xs_a6_0_2 x_w_ys_a6_0_0 x_w_ys_a6_0_2)), .second] [(.int (cmpValue (FP.dcmp (own_r7k1_0 d6_1 d6_2 x_w_xs_a6_0_1 x_w_xs_a6_0_2 x_w_ys_a6_0_1 x_w_ys_a6_0_2) (0 : UInt64)) .g))])) _
          refine stj6_6 _ ?_
          exact kt
      refine ⟨_, _, Xj6_5, Nj6_5, ej6_5, fun target kt => ?_⟩
      rw [(show (own_j6_5 d6_1 d6_2 x_w_xs_a6_0_0 x_w_xs_a6_0_1 x_w_xs_a6_0_2 x_w_ys_a6_0_0 x_w_ys_a6_0_1 x_w_ys_a6_0_2) = (own_j6_2 d6_1 d6_2 x_w_xs_a6_0_0 x_w_xs_a6_0_1 x_w_xs_a6_0_2 x_w_ys_a6_0_0 x_w_ys_a6_0_1 x_w_ys_a6_0_2) from if_pos hj6_4)] at kt
      show Steps p.tables e below (Tk6_3.setTop (mkF m 31 #[.val (.ref a6_0), .val (.double d6_1), .second, .val (.double d6_2), .second, .val (.double (own_r7k0_0 d6_1 d6_2 x_w_xs_a6_0_0 x_w_xs_a6_0_1 x_w_ys_a6_0_0 x_w_ys_a6_0_1)), .second, .val (.double (own_r7k1_0 d6_1 d6_2 x_w_xs_a6_0_1 x_w_xs_a6_0_2 x_w_ys_a6_0_1 x_w_ys_a6_0_2)), .second, .val (.double (own_r7k2_0 d6_1 d6_2 x_w_xs_a6_0_0 x_w_xs_a6_0_2 x_w_ys_a6_0_0 x_w_ys_a6_0_2)), .second] [(.int (cmpValue (FP.dcmp (own_r7k0_0 d6_1 d6_2 x_w_xs_a6_0_0 x_w_xs_a6_0_1 x_w_ys_a6_0_0 x_w_ys_a6_0_1) (0 : UInt64)) .l))])) _
      refine XS.ifYes Xk6_3.here hx rfl (pc0 := 31) (pc' := 48) rfl (hb hby own_d6_31) rfl (XT.i0_lt_t hj6_4) (by decide) (by decide) ?_
      show Steps p.tables e below (Tk6_3.setTop (mkF m 48 #[.val (.ref a6_0), .val (.double d6_1), .second, .val (.double d6_2), .second, .val (.double (own_r7k0_0 d6_1 d6_2 x_w_xs_a6_0_0 x_w_xs_a6_0_1 x_w_ys_a6_0_0 x_w_ys_a6_0_1)), .second, .val (.double (own_r7k1_0 d6_1 d6_2 x_w_xs_a6_0_1 x_w_xs_a6_0_2 x_w_ys_a6_0_1 x_w_ys_a6_0_2)), .second, .val (.double (own_r7k2_0 d6_1 d6_2 x_w_xs_a6_0_0 x_w_xs_a6_0_2 x_w_ys_a6_0_0 x_w_ys_a6_0_2)), .second] [])) _
      refine XS.dload Xk6_3.here hx rfl (hb hby own_d6_48) rfl ?_
      show Steps p.tables e below (Tk6_3.setTop (mkF m 50 #[.val (.ref a6_0), .val (.double d6_1), .second, .val (.double d6_2), .second, .val (.double (own_r7k0_0 d6_1 d6_2 x_w_xs_a6_0_0 x_w_xs_a6_0_1 x_w_ys_a6_0_0 x_w_ys_a6_0_1)), .second, .val (.double (own_r7k1_0 d6_1 d6_2 x_w_xs_a6_0_1 x_w_xs_a6_0_2 x_w_ys_a6_0_1 x_w_ys_a6_0_2)), .second, .val (.double (own_r7k2_0 d6_1 d6_2 x_w_xs_a6_0_0 x_w_xs_a6_0_2 x_w_ys_a6_0_0 x_w_ys_a6_0_2)), .second] [(.double (own_r7k0_0 d6_1 d6_2 x_w_xs_a6_0_0 x_w_xs_a6_0_1 x_w_ys_a6_0_0 x_w_ys_a6_0_1))])) _
      refine XS.dconst0 Xk6_3.here hx rfl (hb hby own_d6_50) (v := (0 : UInt64)) (by decide +kernel) ?_
      show Steps p.tables e below (Tk6_3.setTop (mkF m 51 #[.val (.ref a6_0), .val (.double d6_1), .second, .val (.double d6_2), .second, .val (.double (own_r7k0_0 d6_1 d6_2 x_w_xs_a6_0_0 x_w_xs_a6_0_1 x_w_ys_a6_0_0 x_w_ys_a6_0_1)), .second, .val (.double (own_r7k1_0 d6_1 d6_2 x_w_xs_a6_0_1 x_w_xs_a6_0_2 x_w_ys_a6_0_1 x_w_ys_a6_0_2)), .second, .val (.double (own_r7k2_0 d6_1 d6_2 x_w_xs_a6_0_0 x_w_xs_a6_0_2 x_w_ys_a6_0_0 x_w_ys_a6_0_2)), .second] [(.double (0 : UInt64)), (.double (own_r7k0_0 d6_1 d6_2 x_w_xs_a6_0_0 x_w_xs_a6_0_1 x_w_ys_a6_0_0 x_w_ys_a6_0_1))])) _
      refine XS.dcmpS Xk6_3.here hx rfl (hb hby own_d6_51) rfl rfl ?_
      show Steps p.tables e below (Tk6_3.setTop (mkF m 52 #[.val (.ref a6_0), .val (.double d6_1), .second, .val (.double d6_2), .second, .val (.double (own_r7k0_0 d6_1 d6_2 x_w_xs_a6_0_0 x_w_xs_a6_0_1 x_w_ys_a6_0_0 x_w_ys_a6_0_1)), .second, .val (.double (own_r7k1_0 d6_1 d6_2 x_w_xs_a6_0_1 x_w_xs_a6_0_2 x_w_ys_a6_0_1 x_w_ys_a6_0_2)), .second, .val (.double (own_r7k2_0 d6_1 d6_2 x_w_xs_a6_0_0 x_w_xs_a6_0_2 x_w_ys_a6_0_0 x_w_ys_a6_0_2)), .second] [(.int (cmpValue (FP.dcmp (own_r7k0_0 d6_1 d6_2 x_w_xs_a6_0_0 x_w_xs_a6_0_1 x_w_ys_a6_0_0 x_w_ys_a6_0_1) (0 : UInt64)) .g))])) _
      refine stj6_5 _ ?_
      exact kt
    · obtain ⟨Tj6_8, lj6_8, Xj6_8, Nj6_8, ej6_8, stj6_8⟩ : ∃ (T' : State) (l' : List Loc), Stand p l e ({ frames := 1, cells := 0, slots := 0, locals := 18 } : Room) s m #[(.ref a6_0), (.double d6_1), (.double d6_2)] below meth c T' l' 0 0 ∧ Fr n0 l' ∧ T'.heap = h0 ∧ ∀ target, Steps p.tables e below (T'.setTop (mkF m 74 #[.val (.ref a6_0), .val (.double d6_1), .second, .val (.double d6_2), .second, .val (.double (own_r7k0_0 d6_1 d6_2 x_w_xs_a6_0_0 x_w_xs_a6_0_1 x_w_ys_a6_0_0 x_w_ys_a6_0_1)), .second, .val (.double (own_r7k1_0 d6_1 d6_2 x_w_xs_a6_0_1 x_w_xs_a6_0_2 x_w_ys_a6_0_1 x_w_ys_a6_0_2)), .second, .val (.double (own_r7k2_0 d6_1 d6_2 x_w_xs_a6_0_0 x_w_xs_a6_0_2 x_w_ys_a6_0_0 x_w_ys_a6_0_2)), .second] [(.int (own_j6_4 d6_1 d6_2 x_w_xs_a6_0_0 x_w_xs_a6_0_1 x_w_xs_a6_0_2 x_w_ys_a6_0_0 x_w_ys_a6_0_1 x_w_ys_a6_0_2))])) target → Steps p.tables e below (Tk6_3.setTop (mkF m 38 #[.val (.ref a6_0), .val (.double d6_1), .second, .val (.double d6_2), .second, .val (.double (own_r7k0_0 d6_1 d6_2 x_w_xs_a6_0_0 x_w_xs_a6_0_1 x_w_ys_a6_0_0 x_w_ys_a6_0_1)), .second, .val (.double (own_r7k1_0 d6_1 d6_2 x_w_xs_a6_0_1 x_w_xs_a6_0_2 x_w_ys_a6_0_1 x_w_ys_a6_0_2)), .second, .val (.double (own_r7k2_0 d6_1 d6_2 x_w_xs_a6_0_0 x_w_xs_a6_0_2 x_w_ys_a6_0_0 x_w_ys_a6_0_2)), .second] [(.int (cmpValue (FP.dcmp (own_r7k1_0 d6_1 d6_2 x_w_xs_a6_0_1 x_w_xs_a6_0_2 x_w_ys_a6_0_1 x_w_ys_a6_0_2) (0 : UInt64)) .l))])) target := by
        by_cases hj6_8 : (cmpValue (FP.dcmp (own_r7k1_0 d6_1 d6_2 x_w_xs_a6_0_1 x_w_xs_a6_0_2 x_w_ys_a6_0_1 x_w_ys_a6_0_2) (0 : UInt64)) .l) < (0 : Int32)
        · obtain ⟨Tj6_9, lj6_9, Xj6_9, Nj6_9, ej6_9, stj6_9⟩ : ∃ (T' : State) (l' : List Loc), Stand p l e ({ frames := 1, cells := 0, slots := 0, locals := 18 } : Room) s m #[(.ref a6_0), (.double d6_1), (.double d6_2)] below meth c T' l' 0 0 ∧ Fr n0 l' ∧ T'.heap = h0 ∧ ∀ target, Steps p.tables e below (T'.setTop (mkF m 74 #[.val (.ref a6_0), .val (.double d6_1), .second, .val (.double d6_2), .second, .val (.double (own_r7k0_0 d6_1 d6_2 x_w_xs_a6_0_0 x_w_xs_a6_0_1 x_w_ys_a6_0_0 x_w_ys_a6_0_1)), .second, .val (.double (own_r7k1_0 d6_1 d6_2 x_w_xs_a6_0_1 x_w_xs_a6_0_2 x_w_ys_a6_0_1 x_w_ys_a6_0_2)), .second, .val (.double (own_r7k2_0 d6_1 d6_2 x_w_xs_a6_0_0 x_w_xs_a6_0_2 x_w_ys_a6_0_0 x_w_ys_a6_0_2)), .second] [(.int (own_j6_2 d6_1 d6_2 x_w_xs_a6_0_0 x_w_xs_a6_0_1 x_w_xs_a6_0_2 x_w_ys_a6_0_0 x_w_ys_a6_0_1 x_w_ys_a6_0_2))])) target → Steps p.tables e below (Tk6_3.setTop (mkF m 52 #[.val (.ref a6_0), .val (.double d6_1), .second, .val (.double d6_2), .second, .val (.double (own_r7k0_0 d6_1 d6_2 x_w_xs_a6_0_0 x_w_xs_a6_0_1 x_w_ys_a6_0_0 x_w_ys_a6_0_1)), .second, .val (.double (own_r7k1_0 d6_1 d6_2 x_w_xs_a6_0_1 x_w_xs_a6_0_2 x_w_ys_a6_0_1 x_w_ys_a6_0_2)), .second, .val (.double (own_r7k2_0 d6_1 d6_2 x_w_xs_a6_0_0 x_w_xs_a6_0_2 x_w_ys_a6_0_0 x_w_ys_a6_0_2)), .second] [(.int (cmpValue (FP.dcmp (own_r7k0_0 d6_1 d6_2 x_w_xs_a6_0_0 x_w_xs_a6_0_1 x_w_ys_a6_0_0 x_w_ys_a6_0_1) (0 : UInt64)) .g))])) target := by
            by_cases hj6_9 : (0 : Int32) < (cmpValue (FP.dcmp (own_r7k0_0 d6_1 d6_2 x_w_xs_a6_0_0 x_w_xs_a6_0_1 x_w_ys_a6_0_0 x_w_ys_a6_0_1) (0 : UInt64)) .g)
            · refine ⟨_, _, Xk6_3, Nk6_3, ek6_3, fun target kt => ?_⟩
              rw [(show (own_j6_2 d6_1 d6_2 x_w_xs_a6_0_0 x_w_xs_a6_0_1 x_w_xs_a6_0_2 x_w_ys_a6_0_0 x_w_ys_a6_0_1 x_w_ys_a6_0_2) = (0 : Int32) from if_pos hj6_9)] at kt
              show Steps p.tables e below (Tk6_3.setTop (mkF m 52 #[.val (.ref a6_0), .val (.double d6_1), .second, .val (.double d6_2), .second, .val (.double (own_r7k0_0 d6_1 d6_2 x_w_xs_a6_0_0 x_w_xs_a6_0_1 x_w_ys_a6_0_0 x_w_ys_a6_0_1)), .second, .val (.double (own_r7k1_0 d6_1 d6_2 x_w_xs_a6_0_1 x_w_xs_a6_0_2 x_w_ys_a6_0_1 x_w_ys_a6_0_2)), .second, .val (.double (own_r7k2_0 d6_1 d6_2 x_w_xs_a6_0_0 x_w_xs_a6_0_2 x_w_ys_a6_0_0 x_w_ys_a6_0_2)), .second] [(.int (cmpValue (FP.dcmp (own_r7k0_0 d6_1 d6_2 x_w_xs_a6_0_0 x_w_xs_a6_0_1 x_w_ys_a6_0_0 x_w_ys_a6_0_1) (0 : UInt64)) .g))])) _
              refine XS.ifYes Xk6_3.here hx rfl (pc0 := 52) (pc' := 73) rfl (hb hby own_d6_52) rfl (XT.i0_gt_t hj6_9) (by decide) (by decide) ?_
              show Steps p.tables e below (Tk6_3.setTop (mkF m 73 #[.val (.ref a6_0), .val (.double d6_1), .second, .val (.double d6_2), .second, .val (.double (own_r7k0_0 d6_1 d6_2 x_w_xs_a6_0_0 x_w_xs_a6_0_1 x_w_ys_a6_0_0 x_w_ys_a6_0_1)), .second, .val (.double (own_r7k1_0 d6_1 d6_2 x_w_xs_a6_0_1 x_w_xs_a6_0_2 x_w_ys_a6_0_1 x_w_ys_a6_0_2)), .second, .val (.double (own_r7k2_0 d6_1 d6_2 x_w_xs_a6_0_0 x_w_xs_a6_0_2 x_w_ys_a6_0_0 x_w_ys_a6_0_2)), .second] [])) _
              refine XS.iconst Xk6_3.here hx rfl (hb hby own_d6_73) ?_
              exact kt
            · obtain ⟨Tj6_10, lj6_10, Xj6_10, Nj6_10, ej6_10, stj6_10⟩ : ∃ (T' : State) (l' : List Loc), Stand p l e ({ frames := 1, cells := 0, slots := 0, locals := 18 } : Room) s m #[(.ref a6_0), (.double d6_1), (.double d6_2)] below meth c T' l' 0 0 ∧ Fr n0 l' ∧ T'.heap = h0 ∧ ∀ target, Steps p.tables e below (T'.setTop (mkF m 74 #[.val (.ref a6_0), .val (.double d6_1), .second, .val (.double d6_2), .second, .val (.double (own_r7k0_0 d6_1 d6_2 x_w_xs_a6_0_0 x_w_xs_a6_0_1 x_w_ys_a6_0_0 x_w_ys_a6_0_1)), .second, .val (.double (own_r7k1_0 d6_1 d6_2 x_w_xs_a6_0_1 x_w_xs_a6_0_2 x_w_ys_a6_0_1 x_w_ys_a6_0_2)), .second, .val (.double (own_r7k2_0 d6_1 d6_2 x_w_xs_a6_0_0 x_w_xs_a6_0_2 x_w_ys_a6_0_0 x_w_ys_a6_0_2)), .second] [(.int (own_j6_1 d6_1 d6_2 x_w_xs_a6_0_0 x_w_xs_a6_0_1 x_w_xs_a6_0_2 x_w_ys_a6_0_0 x_w_ys_a6_0_1 x_w_ys_a6_0_2))])) target → Steps p.tables e below (Tk6_3.setTop (mkF m 59 #[.val (.ref a6_0), .val (.double d6_1), .second, .val (.double d6_2), .second, .val (.double (own_r7k0_0 d6_1 d6_2 x_w_xs_a6_0_0 x_w_xs_a6_0_1 x_w_ys_a6_0_0 x_w_ys_a6_0_1)), .second, .val (.double (own_r7k1_0 d6_1 d6_2 x_w_xs_a6_0_1 x_w_xs_a6_0_2 x_w_ys_a6_0_1 x_w_ys_a6_0_2)), .second, .val (.double (own_r7k2_0 d6_1 d6_2 x_w_xs_a6_0_0 x_w_xs_a6_0_2 x_w_ys_a6_0_0 x_w_ys_a6_0_2)), .second] [(.int (cmpValue (FP.dcmp (own_r7k1_0 d6_1 d6_2 x_w_xs_a6_0_1 x_w_xs_a6_0_2 x_w_ys_a6_0_1 x_w_ys_a6_0_2) (0 : UInt64)) .g))])) target := by
                by_cases hj6_10 : (0 : Int32) < (cmpValue (FP.dcmp (own_r7k1_0 d6_1 d6_2 x_w_xs_a6_0_1 x_w_xs_a6_0_2 x_w_ys_a6_0_1 x_w_ys_a6_0_2) (0 : UInt64)) .g)
                · refine ⟨_, _, Xk6_3, Nk6_3, ek6_3, fun target kt => ?_⟩
                  rw [(show (own_j6_1 d6_1 d6_2 x_w_xs_a6_0_0 x_w_xs_a6_0_1 x_w_xs_a6_0_2 x_w_ys_a6_0_0 x_w_ys_a6_0_1 x_w_ys_a6_0_2) = (0 : Int32) from if_pos hj6_10)] at kt
                  show Steps p.tables e below (Tk6_3.setTop (mkF m 59 #[.val (.ref a6_0), .val (.double d6_1), .second, .val (.double d6_2), .second, .val (.double (own_r7k0_0 d6_1 d6_2 x_w_xs_a6_0_0 x_w_xs_a6_0_1 x_w_ys_a6_0_0 x_w_ys_a6_0_1)), .second, .val (.double (own_r7k1_0 d6_1 d6_2 x_w_xs_a6_0_1 x_w_xs_a6_0_2 x_w_ys_a6_0_1 x_w_ys_a6_0_2)), .second, .val (.double (own_r7k2_0 d6_1 d6_2 x_w_xs_a6_0_0 x_w_xs_a6_0_2 x_w_ys_a6_0_0 x_w_ys_a6_0_2)), .second] [(.int (cmpValue (FP.dcmp (own_r7k1_0 d6_1 d6_2 x_w_xs_a6_0_1 x_w_xs_a6_0_2 x_w_ys_a6_0_1 x_w_ys_a6_0_2) (0 : UInt64)) .g))])) _
                  refine XS.ifYes Xk6_3.here hx rfl (pc0 := 59) (pc' := 73) rfl (hb hby own_d6_59) rfl (XT.i0_gt_t hj6_10) (by decide) (by decide) ?_
                  show Steps p.tables e below (Tk6_3.setTop (mkF m 73 #[.val (.ref a6_0), .val (.double d6_1), .second, .val (.double d6_2), .second, .val (.double (own_r7k0_0 d6_1 d6_2 x_w_xs_a6_0_0 x_w_xs_a6_0_1 x_w_ys_a6_0_0 x_w_ys_a6_0_1)), .second, .val (.double (own_r7k1_0 d6_1 d6_2 x_w_xs_a6_0_1 x_w_xs_a6_0_2 x_w_ys_a6_0_1 x_w_ys_a6_0_2)), .second, .val (.double (own_r7k2_0 d6_1 d6_2 x_w_xs_a6_0_0 x_w_xs_a6_0_2 x_w_ys_a6_0_0 x_w_ys_a6_0_2)), .second] [])) _
                  refine XS.iconst Xk6_3.here hx rfl (hb hby own_d6_73) ?_
                  exact kt
                · obtain ⟨Tj6_11, lj6_11, Xj6_11, Nj6_11, ej6_11, stj6_11⟩ : ∃ (T' : State) (l' : List Loc), Stand p l e ({ frames := 1, cells := 0, slots := 0, locals := 18 } : Room) s m #[(.ref a6_0), (.double d6_1), (.double d6_2)] below meth c T' l' 0 0 ∧ Fr n0 l' ∧ T'.heap = h0 ∧ ∀ target, Steps p.tables e below (T'.setTop (mkF m 74 #[.val (.ref a6_0), .val (.double d6_1), .second, .val (.double d6_2), .second, .val (.double (own_r7k0_0 d6_1 d6_2 x_w_xs_a6_0_0 x_w_xs_a6_0_1 x_w_ys_a6_0_0 x_w_ys_a6_0_1)), .second, .val (.double (own_r7k1_0 d6_1 d6_2 x_w_xs_a6_0_1 x_w_xs_a6_0_2 x_w_ys_a6_0_1 x_w_ys_a6_0_2)), .second, .val (.double (own_r7k2_0 d6_1 d6_2 x_w_xs_a6_0_0 x_w_xs_a6_0_2 x_w_ys_a6_0_0 x_w_ys_a6_0_2)), .second] [(.int (own_j6_0 d6_1 d6_2 x_w_xs_a6_0_0 x_w_xs_a6_0_2 x_w_ys_a6_0_0 x_w_ys_a6_0_2))])) target → Steps p.tables e below (Tk6_3.setTop (mkF m 66 #[.val (.ref a6_0), .val (.double d6_1), .second, .val (.double d6_2), .second, .val (.double (own_r7k0_0 d6_1 d6_2 x_w_xs_a6_0_0 x_w_xs_a6_0_1 x_w_ys_a6_0_0 x_w_ys_a6_0_1)), .second, .val (.double (own_r7k1_0 d6_1 d6_2 x_w_xs_a6_0_1 x_w_xs_a6_0_2 x_w_ys_a6_0_1 x_w_ys_a6_0_2)), .second, .val (.double (own_r7k2_0 d6_1 d6_2 x_w_xs_a6_0_0 x_w_xs_a6_0_2 x_w_ys_a6_0_0 x_w_ys_a6_0_2)), .second] [(.int (cmpValue (FP.dcmp (own_r7k2_0 d6_1 d6_2 x_w_xs_a6_0_0 x_w_xs_a6_0_2 x_w_ys_a6_0_0 x_w_ys_a6_0_2) (0 : UInt64)) .g))])) target := by
                    by_cases hj6_11 : (0 : Int32) < (cmpValue (FP.dcmp (own_r7k2_0 d6_1 d6_2 x_w_xs_a6_0_0 x_w_xs_a6_0_2 x_w_ys_a6_0_0 x_w_ys_a6_0_2) (0 : UInt64)) .g)
                    · refine ⟨_, _, Xk6_3, Nk6_3, ek6_3, fun target kt => ?_⟩
                      rw [(show (own_j6_0 d6_1 d6_2 x_w_xs_a6_0_0 x_w_xs_a6_0_2 x_w_ys_a6_0_0 x_w_ys_a6_0_2) = (0 : Int32) from if_pos hj6_11)] at kt
                      show Steps p.tables e below (Tk6_3.setTop (mkF m 66 #[.val (.ref a6_0), .val (.double d6_1), .second, .val (.double d6_2), .second, .val (.double (own_r7k0_0 d6_1 d6_2 x_w_xs_a6_0_0 x_w_xs_a6_0_1 x_w_ys_a6_0_0 x_w_ys_a6_0_1)), .second, .val (.double (own_r7k1_0 d6_1 d6_2 x_w_xs_a6_0_1 x_w_xs_a6_0_2 x_w_ys_a6_0_1 x_w_ys_a6_0_2)), .second, .val (.double (own_r7k2_0 d6_1 d6_2 x_w_xs_a6_0_0 x_w_xs_a6_0_2 x_w_ys_a6_0_0 x_w_ys_a6_0_2)), .second] [(.int (cmpValue (FP.dcmp (own_r7k2_0 d6_1 d6_2 x_w_xs_a6_0_0 x_w_xs_a6_0_2 x_w_ys_a6_0_0 x_w_ys_a6_0_2) (0 : UInt64)) .g))])) _
                      refine XS.ifYes Xk6_3.here hx rfl (pc0 := 66) (pc' := 73) rfl (hb hby own_d6_66) rfl (XT.i0_gt_t hj6_11) (by decide) (by decide) ?_
                      show Steps p.tables e below (Tk6_3.setTop (mkF m 73 #[.val (.ref a6_0), .val (.double d6_1), .second, .val (.double d6_2), .second, .val (.double (own_r7k0_0 d6_1 d6_2 x_w_xs_a6_0_0 x_w_xs_a6_0_1 x_w_ys_a6_0_0 x_w_ys_a6_0_1)), .second, .val (.double (own_r7k1_0 d6_1 d6_2 x_w_xs_a6_0_1 x_w_xs_a6_0_2 x_w_ys_a6_0_1 x_w_ys_a6_0_2)), .second, .val (.double (own_r7k2_0 d6_1 d6_2 x_w_xs_a6_0_0 x_w_xs_a6_0_2 x_w_ys_a6_0_0 x_w_ys_a6_0_2)), .second] [])) _
                      refine XS.iconst Xk6_3.here hx rfl (hb hby own_d6_73) ?_
                      exact kt
                    · refine ⟨_, _, Xk6_3, Nk6_3, ek6_3, fun target kt => ?_⟩
                      rw [(show (own_j6_0 d6_1 d6_2 x_w_xs_a6_0_0 x_w_xs_a6_0_2 x_w_ys_a6_0_0 x_w_ys_a6_0_2) = (1 : Int32) from if_neg hj6_11)] at kt
                      show Steps p.tables e below (Tk6_3.setTop (mkF m 66 #[.val (.ref a6_0), .val (.double d6_1), .second, .val (.double d6_2), .second, .val (.double (own_r7k0_0 d6_1 d6_2 x_w_xs_a6_0_0 x_w_xs_a6_0_1 x_w_ys_a6_0_0 x_w_ys_a6_0_1)), .second, .val (.double (own_r7k1_0 d6_1 d6_2 x_w_xs_a6_0_1 x_w_xs_a6_0_2 x_w_ys_a6_0_1 x_w_ys_a6_0_2)), .second, .val (.double (own_r7k2_0 d6_1 d6_2 x_w_xs_a6_0_0 x_w_xs_a6_0_2 x_w_ys_a6_0_0 x_w_ys_a6_0_2)), .second] [(.int (cmpValue (FP.dcmp (own_r7k2_0 d6_1 d6_2 x_w_xs_a6_0_0 x_w_xs_a6_0_2 x_w_ys_a6_0_0 x_w_ys_a6_0_2) (0 : UInt64)) .g))])) _
                      refine XS.ifNo Xk6_3.here hx rfl (hb hby own_d6_66) rfl (XT.i0_gt_f hj6_11) ?_
                      show Steps p.tables e below (Tk6_3.setTop (mkF m 69 #[.val (.ref a6_0), .val (.double d6_1), .second, .val (.double d6_2), .second, .val (.double (own_r7k0_0 d6_1 d6_2 x_w_xs_a6_0_0 x_w_xs_a6_0_1 x_w_ys_a6_0_0 x_w_ys_a6_0_1)), .second, .val (.double (own_r7k1_0 d6_1 d6_2 x_w_xs_a6_0_1 x_w_xs_a6_0_2 x_w_ys_a6_0_1 x_w_ys_a6_0_2)), .second, .val (.double (own_r7k2_0 d6_1 d6_2 x_w_xs_a6_0_0 x_w_xs_a6_0_2 x_w_ys_a6_0_0 x_w_ys_a6_0_2)), .second] [])) _
                      refine XS.iconst Xk6_3.here hx rfl (hb hby own_d6_69) ?_
                      show Steps p.tables e below (Tk6_3.setTop (mkF m 70 #[.val (.ref a6_0), .val (.double d6_1), .second, .val (.double d6_2), .second, .val (.double (own_r7k0_0 d6_1 d6_2 x_w_xs_a6_0_0 x_w_xs_a6_0_1 x_w_ys_a6_0_0 x_w_ys_a6_0_1)), .second, .val (.double (own_r7k1_0 d6_1 d6_2 x_w_xs_a6_0_1 x_w_xs_a6_0_2 x_w_ys_a6_0_1 x_w_ys_a6_0_2)), .second, .val (.double (own_r7k2_0 d6_1 d6_2 x_w_xs_a6_0_0 x_w_xs_a6_0_2 x_w_ys_a6_0_0 x_w_ys_a6_0_2)), .second] [(.int (1 : Int32))])) _
                      refine XS.goto Xk6_3.here hx rfl (pc0 := 70) (pc' := 74) rfl (hb hby own_d6_70) (by decide) (by decide) ?_
                      exact kt
                  refine ⟨_, _, Xj6_11, Nj6_11, ej6_11, fun target kt => ?_⟩
                  rw [(show (own_j6_1 d6_1 d6_2 x_w_xs_a6_0_0 x_w_xs_a6_0_1 x_w_xs_a6_0_2 x_w_ys_a6_0_0 x_w_ys_a6_0_1 x_w_ys_a6_0_2) = (own_j6_0 d6_1 d6_2 x_w_xs_a6_0_0 x_w_xs_a6_0_2 x_w_ys_a6_0_0 x_w_ys_a6_0_2) from if_neg hj6_10)] at kt
                  show Steps p.tables e below (Tk6_3.setTop (mkF m 59 #[.val (.ref a6_0), .val (.double d6_1), .second, .val (.double d6_2), .second, .val (.double (own_r7k0_0 d6_1 d6_2 x_w_xs_a6_0_0 x_w_xs_a6_0_1 x_w_ys_a6_0_0 x_w_ys_a6_0_1)), .second, .val (.double (own_r7k1_0 d6_1 d6_2 x_w_xs_a6_0_1 x_w_xs_a6_0_2 x_w_ys_a6_0_1 x_w_ys_a6_0_2)), .second, .val (.double (own_r7k2_0 d6_1 d6_2 x_w_xs_a6_0_0 x_w_xs_a6_0_2 x_w_ys_a6_0_0 x_w_ys_a6_0_2)), .second] [(.int (cmpValue (FP.dcmp (own_r7k1_0 d6_1 d6_2 x_w_xs_a6_0_1 x_w_xs_a6_0_2 x_w_ys_a6_0_1 x_w_ys_a6_0_2) (0 : UInt64)) .g))])) _
                  refine XS.ifNo Xk6_3.here hx rfl (hb hby own_d6_59) rfl (XT.i0_gt_f hj6_10) ?_
                  show Steps p.tables e below (Tk6_3.setTop (mkF m 62 #[.val (.ref a6_0), .val (.double d6_1), .second, .val (.double d6_2), .second, .val (.double (own_r7k0_0 d6_1 d6_2 x_w_xs_a6_0_0 x_w_xs_a6_0_1 x_w_ys_a6_0_0 x_w_ys_a6_0_1)), .second, .val (.double (own_r7k1_0 d6_1 d6_2 x_w_xs_a6_0_1 x_w_xs_a6_0_2 x_w_ys_a6_0_1 x_w_ys_a6_0_2)), .second, .val (.double (own_r7k2_0 d6_1 d6_2 x_w_xs_a6_0_0 x_w_xs_a6_0_2 x_w_ys_a6_0_0 x_w_ys_a6_0_2)), .second] [])) _
                  refine XS.dload Xk6_3.here hx rfl (hb hby own_d6_62) rfl ?_
                  show Steps p.tables e below (Tk6_3.setTop (mkF m 64 #[.val (.ref a6_0), .val (.double d6_1), .second, .val (.double d6_2), .second, .val (.double (own_r7k0_0 d6_1 d6_2 x_w_xs_a6_0_0 x_w_xs_a6_0_1 x_w_ys_a6_0_0 x_w_ys_a6_0_1)), .second, .val (.double (own_r7k1_0 d6_1 d6_2 x_w_xs_a6_0_1 x_w_xs_a6_0_2 x_w_ys_a6_0_1 x_w_ys_a6_0_2)), .second, .val (.double (own_r7k2_0 d6_1 d6_2 x_w_xs_a6_0_0 x_w_xs_a6_0_2 x_w_ys_a6_0_0 x_w_ys_a6_0_2)), .second] [(.double (own_r7k2_0 d6_1 d6_2 x_w_xs_a6_0_0 x_w_xs_a6_0_2 x_w_ys_a6_0_0 x_w_ys_a6_0_2))])) _
                  refine XS.dconst0 Xk6_3.here hx rfl (hb hby own_d6_64) (v := (0 : UInt64)) (by decide +kernel) ?_
                  show Steps p.tables e below (Tk6_3.setTop (mkF m 65 #[.val (.ref a6_0), .val (.double d6_1), .second, .val (.double d6_2), .second, .val (.double (own_r7k0_0 d6_1 d6_2 x_w_xs_a6_0_0 x_w_xs_a6_0_1 x_w_ys_a6_0_0 x_w_ys_a6_0_1)), .second, .val (.double (own_r7k1_0 d6_1 d6_2 x_w_xs_a6_0_1 x_w_xs_a6_0_2 x_w_ys_a6_0_1 x_w_ys_a6_0_2)), .second, .val (.double (own_r7k2_0 d6_1 d6_2 x_w_xs_a6_0_0 x_w_xs_a6_0_2 x_w_ys_a6_0_0 x_w_ys_a6_0_2)), .second] [(.double (0 : UInt64)), (.double (own_r7k2_0 d6_1 d6_2 x_w_xs_a6_0_0 x_w_xs_a6_0_2 x_w_ys_a6_0_0 x_w_ys_a6_0_2))])) _
                  refine XS.dcmpS Xk6_3.here hx rfl (hb hby own_d6_65) rfl rfl ?_
                  show Steps p.tables e below (Tk6_3.setTop (mkF m 66 #[.val (.ref a6_0), .val (.double d6_1), .second, .val (.double d6_2), .second, .val (.double (own_r7k0_0 d6_1 d6_2 x_w_xs_a6_0_0 x_w_xs_a6_0_1 x_w_ys_a6_0_0 x_w_ys_a6_0_1)), .second, .val (.double (own_r7k1_0 d6_1 d6_2 x_w_xs_a6_0_1 x_w_xs_a6_0_2 x_w_ys_a6_0_1 x_w_ys_a6_0_2)), .second, .val (.double (own_r7k2_0 d6_1 d6_2 x_w_xs_a6_0_0 x_w_xs_a6_0_2 x_w_ys_a6_0_0 x_w_ys_a6_0_2)), .second] [(.int (cmpValue (FP.dcmp (own_r7k2_0 d6_1 d6_2 x_w_xs_a6_0_0 x_w_xs_a6_0_2 x_w_ys_a6_0_0 x_w_ys_a6_0_2) (0 : UInt64)) .g))])) _
                  refine stj6_11 _ ?_
                  exact kt
              refine ⟨_, _, Xj6_10, Nj6_10, ej6_10, fun target kt => ?_⟩
              rw [(show (own_j6_2 d6_1 d6_2 x_w_xs_a6_0_0 x_w_xs_a6_0_1 x_w_xs_a6_0_2 x_w_ys_a6_0_0 x_w_ys_a6_0_1 x_w_ys_a6_0_2) = (own_j6_1 d6_1 d6_2 x_w_xs_a6_0_0 x_w_xs_a6_0_1 x_w_xs_a6_0_2 x_w_ys_a6_0_0 x_w_ys_a6_0_1 x_w_ys_a6_0_2) from if_neg hj6_9)] at kt
              show Steps p.tables e below (Tk6_3.setTop (mkF m 52 #[.val (.ref a6_0), .val (.double d6_1), .second, .val (.double d6_2), .second, .val (.double (own_r7k0_0 d6_1 d6_2 x_w_xs_a6_0_0 x_w_xs_a6_0_1 x_w_ys_a6_0_0 x_w_ys_a6_0_1)), .second, .val (.double (own_r7k1_0 d6_1 d6_2 x_w_xs_a6_0_1 x_w_xs_a6_0_2 x_w_ys_a6_0_1 x_w_ys_a6_0_2)), .second, .val (.double (own_r7k2_0 d6_1 d6_2 x_w_xs_a6_0_0 x_w_xs_a6_0_2 x_w_ys_a6_0_0 x_w_ys_a6_0_2)), .second] [(.int (cmpValue (FP.dcmp (own_r7k0_0 d6_1 d6_2 x_w_xs_a6_0_0 x_w_xs_a6_0_1 x_w_ys_a6_0_0 x_w_ys_a6_0_1) (0 : UInt64)) .g))])) _
              refine XS.ifNo Xk6_3.here hx rfl (hb hby own_d6_52) rfl (XT.i0_gt_f hj6_9) ?_
              show Steps p.tables e below (Tk6_3.setTop (mkF m 55 #[.val (.ref a6_0), .val (.double d6_1), .second, .val (.double d6_2), .second, .val (.double (own_r7k0_0 d6_1 d6_2 x_w_xs_a6_0_0 x_w_xs_a6_0_1 x_w_ys_a6_0_0 x_w_ys_a6_0_1)), .second, .val (.double (own_r7k1_0 d6_1 d6_2 x_w_xs_a6_0_1 x_w_xs_a6_0_2 x_w_ys_a6_0_1 x_w_ys_a6_0_2)), .second, .val (.double (own_r7k2_0 d6_1 d6_2 x_w_xs_a6_0_0 x_w_xs_a6_0_2 x_w_ys_a6_0_0 x_w_ys_a6_0_2)), .second] [])) _
              refine XS.dload Xk6_3.here hx rfl (hb hby own_d6_55) rfl ?_
              show Steps p.tables e below (Tk6_3.setTop (mkF m 57 #[.val (.ref a6_0), .val (.double d6_1), .second, .val (.double d6_2), .second, .val (.double (own_r7k0_0 d6_1 d6_2 x_w_xs_a6_0_0 x_w_xs_a6_0_1 x_w_ys_a6_0_0 x_w_ys_a6_0_1)), .second, .val (.double (own_r7k1_0 d6_1 d6_2 x_w_xs_a6_0_1 x_w_xs_a6_0_2 x_w_ys_a6_0_1 x_w_ys_a6_0_2)), .second, .val (.double (own_r7k2_0 d6_1 d6_2 x_w_xs_a6_0_0 x_w_xs_a6_0_2 x_w_ys_a6_0_0 x_w_ys_a6_0_2)), .second] [(.double (own_r7k1_0 d6_1 d6_2 x_w_xs_a6_0_1 x_w_xs_a6_0_2 x_w_ys_a6_0_1 x_w_ys_a6_0_2))])) _
              refine XS.dconst0 Xk6_3.here hx rfl (hb hby own_d6_57) (v := (0 : UInt64)) (by decide +kernel) ?_
              show Steps p.tables e below (Tk6_3.setTop (mkF m 58 #[.val (.ref a6_0), .val (.double d6_1), .second, .val (.double d6_2), .second, .val (.double (own_r7k0_0 d6_1 d6_2 x_w_xs_a6_0_0 x_w_xs_a6_0_1 x_w_ys_a6_0_0 x_w_ys_a6_0_1)), .second, .val (.double (own_r7k1_0 d6_1 d6_2 x_w_xs_a6_0_1 x_w_xs_a6_0_2 x_w_ys_a6_0_1 x_w_ys_a6_0_2)), .second, .val (.double (own_r7k2_0 d6_1 d6_2 x_w_xs_a6_0_0 x_w_xs_a6_0_2 x_w_ys_a6_0_0 x_w_ys_a6_0_2)), .second] [(.double (0 : UInt64)), (.double (own_r7k1_0 d6_1 d6_2 x_w_xs_a6_0_1 x_w_xs_a6_0_2 x_w_ys_a6_0_1 x_w_ys_a6_0_2))])) _
              refine XS.dcmpS Xk6_3.here hx rfl (hb hby own_d6_58) rfl rfl ?_
              show Steps p.tables e below (Tk6_3.setTop (mkF m 59 #[.val (.ref a6_0), .val (.double d6_1), .second, .val (.double d6_2), .second, .val (.double (own_r7k0_0 d6_1 d6_2 x_w_xs_a6_0_0 x_w_xs_a6_0_1 x_w_ys_a6_0_0 x_w_ys_a6_0_1)), .second, .val (.double (own_r7k1_0 d6_1 d6_2 x_w_xs_a6_0_1 x_w_xs_a6_0_2 x_w_ys_a6_0_1 x_w_ys_a6_0_2)), .second, .val (.double (own_r7k2_0 d6_1 d6_2 x_w_xs_a6_0_0 x_w_xs_a6_0_2 x_w_ys_a6_0_0 x_w_ys_a6_0_2)), .second] [(.int (cmpValue (FP.dcmp (own_r7k1_0 d6_1 d6_2 x_w_xs_a6_0_1 x_w_xs_a6_0_2 x_w_ys_a6_0_1 x_w_ys_a6_0_2) (0 : UInt64)) .g))])) _
              refine stj6_10 _ ?_
              exact kt
          refine ⟨_, _, Xj6_9, Nj6_9, ej6_9, fun target kt => ?_⟩
          rw [(show (own_j6_4 d6_1 d6_2 x_w_xs_a6_0_0 x_w_xs_a6_0_1 x_w_xs_a6_0_2 x_w_ys_a6_0_0 x_w_ys_a6_0_1 x_w_ys_a6_0_2) = (own_j6_2 d6_1 d6_2 x_w_xs_a6_0_0 x_w_xs_a6_0_1 x_w_xs_a6_0_2 x_w_ys_a6_0_0 x_w_ys_a6_0_1 x_w_ys_a6_0_2) from if_pos hj6_8)] at kt
          show Steps p.tables e below (Tk6_3.setTop (mkF m 38 #[.val (.ref a6_0), .val (.double d6_1), .second, .val (.double d6_2), .second, .val (.double (own_r7k0_0 d6_1 d6_2 x_w_xs_a6_0_0 x_w_xs_a6_0_1 x_w_ys_a6_0_0 x_w_ys_a6_0_1)), .second, .val (.double (own_r7k1_0 d6_1 d6_2 x_w_xs_a6_0_1 x_w_xs_a6_0_2 x_w_ys_a6_0_1 x_w_ys_a6_0_2)), .second, .val (.double (own_r7k2_0 d6_1 d6_2 x_w_xs_a6_0_0 x_w_xs_a6_0_2 x_w_ys_a6_0_0 x_w_ys_a6_0_2)), .second] [(.int (cmpValue (FP.dcmp (own_r7k1_0 d6_1 d6_2 x_w_xs_a6_0_1 x_w_xs_a6_0_2 x_w_ys_a6_0_1 x_w_ys_a6_0_2) (0 : UInt64)) .l))])) _
          refine XS.ifYes Xk6_3.here hx rfl (pc0 := 38) (pc' := 48) rfl (hb hby own_d6_38) rfl (XT.i0_lt_t hj6_8) (by decide) (by decide) ?_
          show Steps p.tables e below (Tk6_3.setTop (mkF m 48 #[.val (.ref a6_0), .val (.double d6_1), .second, .val (.double d6_2), .second, .val (.double (own_r7k0_0 d6_1 d6_2 x_w_xs_a6_0_0 x_w_xs_a6_0_1 x_w_ys_a6_0_0 x_w_ys_a6_0_1)), .second, .val (.double (own_r7k1_0 d6_1 d6_2 x_w_xs_a6_0_1 x_w_xs_a6_0_2 x_w_ys_a6_0_1 x_w_ys_a6_0_2)), .second, .val (.double (own_r7k2_0 d6_1 d6_2 x_w_xs_a6_0_0 x_w_xs_a6_0_2 x_w_ys_a6_0_0 x_w_ys_a6_0_2)), .second] [])) _
          refine XS.dload Xk6_3.here hx rfl (hb hby own_d6_48) rfl ?_
          show Steps p.tables e below (Tk6_3.setTop (mkF m 50 #[.val (.ref a6_0), .val (.double d6_1), .second, .val (.double d6_2), .second, .val (.double (own_r7k0_0 d6_1 d6_2 x_w_xs_a6_0_0 x_w_xs_a6_0_1 x_w_ys_a6_0_0 x_w_ys_a6_0_1)), .second, .val (.double (own_r7k1_0 d6_1 d6_2 x_w_xs_a6_0_1 x_w_xs_a6_0_2 x_w_ys_a6_0_1 x_w_ys_a6_0_2)), .second, .val (.double (own_r7k2_0 d6_1 d6_2 x_w_xs_a6_0_0 x_w_xs_a6_0_2 x_w_ys_a6_0_0 x_w_ys_a6_0_2)), .second] [(.double (own_r7k0_0 d6_1 d6_2 x_w_xs_a6_0_0 x_w_xs_a6_0_1 x_w_ys_a6_0_0 x_w_ys_a6_0_1))])) _
          refine XS.dconst0 Xk6_3.here hx rfl (hb hby own_d6_50) (v := (0 : UInt64)) (by decide +kernel) ?_
          show Steps p.tables e below (Tk6_3.setTop (mkF m 51 #[.val (.ref a6_0), .val (.double d6_1), .second, .val (.double d6_2), .second, .val (.double (own_r7k0_0 d6_1 d6_2 x_w_xs_a6_0_0 x_w_xs_a6_0_1 x_w_ys_a6_0_0 x_w_ys_a6_0_1)), .second, .val (.double (own_r7k1_0 d6_1 d6_2 x_w_xs_a6_0_1 x_w_xs_a6_0_2 x_w_ys_a6_0_1 x_w_ys_a6_0_2)), .second, .val (.double (own_r7k2_0 d6_1 d6_2 x_w_xs_a6_0_0 x_w_xs_a6_0_2 x_w_ys_a6_0_0 x_w_ys_a6_0_2)), .second] [(.double (0 : UInt64)), (.double (own_r7k0_0 d6_1 d6_2 x_w_xs_a6_0_0 x_w_xs_a6_0_1 x_w_ys_a6_0_0 x_w_ys_a6_0_1))])) _
          refine XS.dcmpS Xk6_3.here hx rfl (hb hby own_d6_51) rfl rfl ?_
          show Steps p.tables e below (Tk6_3.setTop (mkF m 52 #[.val (.ref a6_0), .val (.double d6_1), .second, .val (.double d6_2), .second, .val (.double (own_r7k0_0 d6_1 d6_2 x_w_xs_a6_0_0 x_w_xs_a6_0_1 x_w_ys_a6_0_0 x_w_ys_a6_0_1)), .second, .val (.double (own_r7k1_0 d6_1 d6_2 x_w_xs_a6_0_1 x_w_xs_a6_0_2 x_w_ys_a6_0_1 x_w_ys_a6_0_2)), .second, .val (.double (own_r7k2_0 d6_1 d6_2 x_w_xs_a6_0_0 x_w_xs_a6_0_2 x_w_ys_a6_0_0 x_w_ys_a6_0_2)), .second] [(.int (cmpValue (FP.dcmp (own_r7k0_0 d6_1 d6_2 x_w_xs_a6_0_0 x_w_xs_a6_0_1 x_w_ys_a6_0_0 x_w_ys_a6_0_1) (0 : UInt64)) .g))])) _
          refine stj6_9 _ ?_
          exact kt
        · obtain ⟨Tj6_12, lj6_12, Xj6_12, Nj6_12, ej6_12, stj6_12⟩ : ∃ (T' : State) (l' : List Loc), Stand p l e ({ frames := 1, cells := 0, slots := 0, locals := 18 } : Room) s m #[(.ref a6_0), (.double d6_1), (.double d6_2)] below meth c T' l' 0 0 ∧ Fr n0 l' ∧ T'.heap = h0 ∧ ∀ target, Steps p.tables e below (T'.setTop (mkF m 74 #[.val (.ref a6_0), .val (.double d6_1), .second, .val (.double d6_2), .second, .val (.double (own_r7k0_0 d6_1 d6_2 x_w_xs_a6_0_0 x_w_xs_a6_0_1 x_w_ys_a6_0_0 x_w_ys_a6_0_1)), .second, .val (.double (own_r7k1_0 d6_1 d6_2 x_w_xs_a6_0_1 x_w_xs_a6_0_2 x_w_ys_a6_0_1 x_w_ys_a6_0_2)), .second, .val (.double (own_r7k2_0 d6_1 d6_2 x_w_xs_a6_0_0 x_w_xs_a6_0_2 x_w_ys_a6_0_0 x_w_ys_a6_0_2)), .second] [(.int (own_j6_3 d6_1 d6_2 x_w_xs_a6_0_0 x_w_xs_a6_0_1 x_w_xs_a6_0_2 x_w_ys_a6_0_0 x_w_ys_a6_0_1 x_w_ys_a6_0_2))])) target → Steps p.tables e below (Tk6_3.setTop (mkF m 45 #[.val (.ref a6_0), .val (.double d6_1), .second, .val (.double d6_2), .second, .val (.double (own_r7k0_0 d6_1 d6_2 x_w_xs_a6_0_0 x_w_xs_a6_0_1 x_w_ys_a6_0_0 x_w_ys_a6_0_1)), .second, .val (.double (own_r7k1_0 d6_1 d6_2 x_w_xs_a6_0_1 x_w_xs_a6_0_2 x_w_ys_a6_0_1 x_w_ys_a6_0_2)), .second, .val (.double (own_r7k2_0 d6_1 d6_2 x_w_xs_a6_0_0 x_w_xs_a6_0_2 x_w_ys_a6_0_0 x_w_ys_a6_0_2)), .second] [(.int (cmpValue (FP.dcmp (own_r7k2_0 d6_1 d6_2 x_w_xs_a6_0_0 x_w_xs_a6_0_2 x_w_ys_a6_0_0 x_w_ys_a6_0_2) (0 : UInt64)) .l))])) target := by
            by_cases hj6_12 : (cmpValue (FP.dcmp (own_r7k2_0 d6_1 d6_2 x_w_xs_a6_0_0 x_w_xs_a6_0_2 x_w_ys_a6_0_0 x_w_ys_a6_0_2) (0 : UInt64)) .l) < (0 : Int32)
            · obtain ⟨Tj6_13, lj6_13, Xj6_13, Nj6_13, ej6_13, stj6_13⟩ : ∃ (T' : State) (l' : List Loc), Stand p l e ({ frames := 1, cells := 0, slots := 0, locals := 18 } : Room) s m #[(.ref a6_0), (.double d6_1), (.double d6_2)] below meth c T' l' 0 0 ∧ Fr n0 l' ∧ T'.heap = h0 ∧ ∀ target, Steps p.tables e below (T'.setTop (mkF m 74 #[.val (.ref a6_0), .val (.double d6_1), .second, .val (.double d6_2), .second, .val (.double (own_r7k0_0 d6_1 d6_2 x_w_xs_a6_0_0 x_w_xs_a6_0_1 x_w_ys_a6_0_0 x_w_ys_a6_0_1)), .second, .val (.double (own_r7k1_0 d6_1 d6_2 x_w_xs_a6_0_1 x_w_xs_a6_0_2 x_w_ys_a6_0_1 x_w_ys_a6_0_2)), .second, .val (.double (own_r7k2_0 d6_1 d6_2 x_w_xs_a6_0_0 x_w_xs_a6_0_2 x_w_ys_a6_0_0 x_w_ys_a6_0_2)), .second] [(.int (own_j6_2 d6_1 d6_2 x_w_xs_a6_0_0 x_w_xs_a6_0_1 x_w_xs_a6_0_2 x_w_ys_a6_0_0 x_w_ys_a6_0_1 x_w_ys_a6_0_2))])) target → Steps p.tables e below (Tk6_3.setTop (mkF m 52 #[.val (.ref a6_0), .val (.double d6_1), .second, .val (.double d6_2), .second, .val (.double (own_r7k0_0 d6_1 d6_2 x_w_xs_a6_0_0 x_w_xs_a6_0_1 x_w_ys_a6_0_0 x_w_ys_a6_0_1)), .second, .val (.double (own_r7k1_0 d6_1 d6_2 x_w_xs_a6_0_1 x_w_xs_a6_0_2 x_w_ys_a6_0_1 x_w_ys_a6_0_2)), .second, .val (.double (own_r7k2_0 d6_1 d6_2 x_w_xs_a6_0_0 x_w_xs_a6_0_2 x_w_ys_a6_0_0 x_w_ys_a6_0_2)), .second] [(.int (cmpValue (FP.dcmp (own_r7k0_0 d6_1 d6_2 x_w_xs_a6_0_0 x_w_xs_a6_0_1 x_w_ys_a6_0_0 x_w_ys_a6_0_1) (0 : UInt64)) .g))])) target := by
                by_cases hj6_13 : (0 : Int32) < (cmpValue (FP.dcmp (own_r7k0_0 d6_1 d6_2 x_w_xs_a6_0_0 x_w_xs_a6_0_1 x_w_ys_a6_0_0 x_w_ys_a6_0_1) (0 : UInt64)) .g)
                · refine ⟨_, _, Xk6_3, Nk6_3, ek6_3, fun target kt => ?_⟩
                  rw [(show (own_j6_2 d6_1 d6_2 x_w_xs_a6_0_0 x_w_xs_a6_0_1 x_w_xs_a6_0_2 x_w_ys_a6_0_0 x_w_ys_a6_0_1 x_w_ys_a6_0_2) = (0 : Int32) from if_pos hj6_13)] at kt
                  show Steps p.tables e below (Tk6_3.setTop (mkF m 52 #[.val (.ref a6_0), .val (.double d6_1), .second, .val (.double d6_2), .second, .val (.double (own_r7k0_0 d6_1 d6_2 x_w_xs_a6_0_0 x_w_xs_a6_0_1 x_w_ys_a6_0_0 x_w_ys_a6_0_1)), .second, .val (.double (own_r7k1_0 d6_1 d6_2 x_w_xs_a6_0_1 x_w_xs_a6_0_2 x_w_ys_a6_0_1 x_w_ys_a6_0_2)), .second, .val (.double (own_r7k2_0 d6_1 d6_2 x_w_xs_a6_0_0 x_w_xs_a6_0_2 x_w_ys_a6_0_0 x_w_ys_a6_0_2)), .second] [(.int (cmpValue (FP.dcmp (own_r7k0_0 d6_1 d6_2 x_w_xs_a6_0_0 x_w_xs_a6_0_1 x_w_ys_a6_0_0 x_w_ys_a6_0_1) (0 : UInt64)) .g))])) _
                  refine XS.ifYes Xk6_3.here hx rfl (pc0 := 52) (pc' := 73) rfl (hb hby own_d6_52) rfl (XT.i0_gt_t hj6_13) (by decide) (by decide) ?_
                  show Steps p.tables e below (Tk6_3.setTop (mkF m 73 #[.val (.ref a6_0), .val (.double d6_1), .second, .val (.double d6_2), .second, .val (.double (own_r7k0_0 d6_1 d6_2 x_w_xs_a6_0_0 x_w_xs_a6_0_1 x_w_ys_a6_0_0 x_w_ys_a6_0_1)), .second, .val (.double (own_r7k1_0 d6_1 d6_2 x_w_xs_a6_0_1 x_w_xs_a6_0_2 x_w_ys_a6_0_1 x_w_ys_a6_0_2)), .second, .val (.double (own_r7k2_0 d6_1 d6_2 x_w_xs_a6_0_0 x_w_xs_a6_0_2 x_w_ys_a6_0_0 x_w_ys_a6_0_2)), .second] [])) _
                  refine XS.iconst Xk6_3.here hx rfl (hb hby own_d6_73) ?_
                  exact kt
                · obtain ⟨Tj6_14, lj6_14, Xj6_14, Nj6_14, ej6_14, stj6_14⟩ : ∃ (T' : State) (l' : List Loc), Stand p l e ({ frames := 1, cells := 0, slots := 0, locals := 18 } : Room) s m #[(.ref a6_0), (.double d6_1), (.double d6_2)] below meth c T' l' 0 0 ∧ Fr n0 l' ∧ T'.heap = h0 ∧ ∀ target, Steps p.tables e below (T'.setTop (mkF m 74 #[.val (.ref a6_0), .val (.double d6_1), .second, .val (.double d6_2), .second, .val (.double (own_r7k0_0 d6_1 d6_2 x_w_xs_a6_0_0 x_w_xs_a6_0_1 x_w_ys_a6_0_0 x_w_ys_a6_0_1)), .second, .val (.double (own_r7k1_0 d6_1 d6_2 x_w_xs_a6_0_1 x_w_xs_a6_0_2 x_w_ys_a6_0_1 x_w_ys_a6_0_2)), .second, .val (.double (own_r7k2_0 d6_1 d6_2 x_w_xs_a6_0_0 x_w_xs_a6_0_2 x_w_ys_a6_0_0 x_w_ys_a6_0_2)), .second] [(.int (own_j6_1 d6_1 d6_2 x_w_xs_a6_0_0 x_w_xs_a6_0_1 x_w_xs_a6_0_2 x_w_ys_a6_0_0 x_w_ys_a6_0_1 x_w_ys_a6_0_2))])) target → Steps p.tables e below (Tk6_3.setTop (mkF m 59 #[.val (.ref a6_0), .val (.double d6_1), .second, .val (.double d6_2), .second, .val (.double (own_r7k0_0 d6_1 d6_2 x_w_xs_a6_0_0 x_w_xs_a6_0_1 x_w_ys_a6_0_0 x_w_ys_a6_0_1)), .second, .val (.double (own_r7k1_0 d6_1 d6_2 x_w_xs_a6_0_1 x_w_xs_a6_0_2 x_w_ys_a6_0_1 x_w_ys_a6_0_2)), .second, .val (.double (own_r7k2_0 d6_1 d6_2 x_w_xs_a6_0_0 x_w_xs_a6_0_2 x_w_ys_a6_0_0 x_w_ys_a6_0_2)), .second] [(.int (cmpValue (FP.dcmp (own_r7k1_0 d6_1 d6_2 x_w_xs_a6_0_1 x_w_xs_a6_0_2 x_w_ys_a6_0_1 x_w_ys_a6_0_2) (0 : UInt64)) .g))])) target := by
                    by_cases hj6_14 : (0 : Int32) < (cmpValue (FP.dcmp (own_r7k1_0 d6_1 d6_2 x_w_xs_a6_0_1 x_w_xs_a6_0_2 x_w_ys_a6_0_1 x_w_ys_a6_0_2) (0 : UInt64)) .g)
                    · refine ⟨_, _, Xk6_3, Nk6_3, ek6_3, fun target kt => ?_⟩
                      rw [(show (own_j6_1 d6_1 d6_2 x_w_xs_a6_0_0 x_w_xs_a6_0_1 x_w_xs_a6_0_2 x_w_ys_a6_0_0 x_w_ys_a6_0_1 x_w_ys_a6_0_2) = (0 : Int32) from if_pos hj6_14)] at kt
                      show Steps p.tables e below (Tk6_3.setTop (mkF m 59 #[.val (.ref a6_0), .val (.double d6_1), .second, .val (.double d6_2), .second, .val (.double (own_r7k0_0 d6_1 d6_2 x_w_xs_a6_0_0 x_w_xs_a6_0_1 x_w_ys_a6_0_0 x_w_ys_a6_0_1)), .second, .val (.double (own_r7k1_0 d6_1 d6_2 x_w_xs_a6_0_1 x_w_xs_a6_0_2 x_w_ys_a6_0_1 x_w_ys_a6_0_2)), .second, .val (.double (own_r7k2_0 d6_1 d6_2 x_w_xs_a6_0_0 x_w_xs_a6_0_2 x_w_ys_a6_0_0 x_w_ys_a6_0_2)), .second] [(.int (cmpValue (FP.dcmp (own_r7k1_0 d6_1 d6_2 x_w_xs_a6_0_1 x_w_xs_a6_0_2 x_w_ys_a6_0_1 x_w_ys_a6_0_2) (0 : UInt64)) .g))])) _
                      refine XS.ifYes Xk6_3.here hx rfl (pc0 := 59) (pc' := 73) rfl (hb hby own_d6_59) rfl (XT.i0_gt_t hj6_14) (by decide) (by decide) ?_
                      show Steps p.tables e below (Tk6_3.setTop (mkF m 73 #[.val (.ref a6_0), .val (.double d6_1), .second, .val (.double d6_2), .second, .val (.double (own_r7k0_0 d6_1 d6_2 x_w_xs_a6_0_0 x_w_xs_a6_0_1 x_w_ys_a6_0_0 x_w_ys_a6_0_1)), .second, .val (.double (own_r7k1_0 d6_1 d6_2 x_w_xs_a6_0_1 x_w_xs_a6_0_2 x_w_ys_a6_0_1 x_w_ys_a6_0_2)), .second, .val (.double (own_r7k2_0 d6_1 d6_2 x_w_xs_a6_0_0 x_w_xs_a6_0_2 x_w_ys_a6_0_0 x_w_ys_a6_0_2)), .second] [])) _
                      refine XS.iconst Xk6_3.here hx rfl (hb hby own_d6_73) ?_
                      exact kt
                    · obtain ⟨Tj6_15, lj6_15, Xj6_15, Nj6_15, ej6_15, stj6_15⟩ : ∃ (T' : State) (l' : List Loc), Stand p l e ({ frames := 1, cells := 0, slots := 0, locals := 18 } : Room) s m #[(.ref a6_0), (.double d6_1), (.double d6_2)] below meth c T' l' 0 0 ∧ Fr n0 l' ∧ T'.heap = h0 ∧ ∀ target, Steps p.tables e below (T'.setTop (mkF m 74 #[.val (.ref a6_0), .val (.double d6_1), .second, .val (.double d6_2), .second, .val (.double (own_r7k0_0 d6_1 d6_2 x_w_xs_a6_0_0 x_w_xs_a6_0_1 x_w_ys_a6_0_0 x_w_ys_a6_0_1)), .second, .val (.double (own_r7k1_0 d6_1 d6_2 x_w_xs_a6_0_1 x_w_xs_a6_0_2 x_w_ys_a6_0_1 x_w_ys_a6_0_2)), .second, .val (.double (own_r7k2_0 d6_1 d6_2 x_w_xs_a6_0_0 x_w_xs_a6_0_2 x_w_ys_a6_0_0 x_w_ys_a6_0_2)), .second] [(.int (own_j6_0 d6_1 d6_2 x_w_xs_a6_0_0 x_w_xs_a6_0_2 x_w_ys_a6_0_0 x_w_ys_a6_0_2))])) target → Steps p.tables e below (Tk6_3.setTop (mkF m 66 #[.val (.ref a6_0), .val (.double d6_1), .second, .val (.double d6_2), .second, .val (.double (own_r7k0_0 d6_1 d6_2 x_w_xs_a6_0_0 x_w_xs_a6_0_1 x_w_ys_a6_0_0 x_w_ys_a6_0_1)), .second, .val (.double (own_r7k1_0 d6_1 d6_2 x_w_xs_a6_0_1 x_w_xs_a6_0_2 x_w_ys_a6_0_1 x_w_ys_a6_0_2)), .second, .val (.double (own_r7k2_0 d6_1 d6_2 x_w_xs_a6_0_0 x_w_xs_a6_0_2 x_w_ys_a6_0_0 x_w_ys_a6_0_2)), .second] [(.int (cmpValue (FP.dcmp (own_r7k2_0 d6_1 d6_2 x_w_xs_a6_0_0 x_w_xs_a6_0_2 x_w_ys_a6_0_0 x_w_ys_a6_0_2) (0 : UInt64)) .g))])) target := by
                        by_cases hj6_15 : (0 : Int32) < (cmpValue (FP.dcmp (own_r7k2_0 d6_1 d6_2 x_w_xs_a6_0_0 x_w_xs_a6_0_2 x_w_ys_a6_0_0 x_w_ys_a6_0_2) (0 : UInt64)) .g)
                        · refine ⟨_, _, Xk6_3, Nk6_3, ek6_3, fun target kt => ?_⟩
                          rw [(show (own_j6_0 d6_1 d6_2 x_w_xs_a6_0_0 x_w_xs_a6_0_2 x_w_ys_a6_0_0 x_w_ys_a6_0_2) = (0 : Int32) from if_pos hj6_15)] at kt
                          show Steps p.tables e below (Tk6_3.setTop (mkF m 66 #[.val (.ref a6_0), .val (.double d6_1), .second, .val (.double d6_2), .second, .val (.double (own_r7k0_0 d6_1 d6_2 x_w_xs_a6_0_0 x_w_xs_a6_0_1 x_w_ys_a6_0_0 x_w_ys_a6_0_1)), .second, .val (.double (own_r7k1_0 d6_1 d6_2 x_w_xs_a6_0_1 x_w_xs_a6_0_2 x_w_ys_a6_0_1 x_w_ys_a6_0_2)), .second, .val (.double (own_r7k2_0 d6_1 d6_2 x_w_xs_a6_0_0 x_w_xs_a6_0_2 x_w_ys_a6_0_0 x_w_ys_a6_0_2)), .second] [(.int (cmpValue (FP.dcmp (own_r7k2_0 d6_1 d6_2 x_w_xs_a6_0_0 x_w_xs_a6_0_2 x_w_ys_a6_0_0 x_w_ys_a6_0_2) (0 : UInt64)) .g))])) _
                          refine XS.ifYes Xk6_3.here hx rfl (pc0 := 66) (pc' := 73) rfl (hb hby own_d6_66) rfl (XT.i0_gt_t hj6_15) (by decide) (by decide) ?_
                          show Steps p.tables e below (Tk6_3.setTop (mkF m 73 #[.val (.ref a6_0), .val (.double d6_1), .second, .val (.double d6_2), .second, .val (.double (own_r7k0_0 d6_1 d6_2 x_w_xs_a6_0_0 x_w_xs_a6_0_1 x_w_ys_a6_0_0 x_w_ys_a6_0_1)), .second, .val (.double (own_r7k1_0 d6_1 d6_2 x_w_xs_a6_0_1 x_w_xs_a6_0_2 x_w_ys_a6_0_1 x_w_ys_a6_0_2)), .second, .val (.double (own_r7k2_0 d6_1 d6_2 x_w_xs_a6_0_0 x_w_xs_a6_0_2 x_w_ys_a6_0_0 x_w_ys_a6_0_2)), .second] [])) _
                          refine XS.iconst Xk6_3.here hx rfl (hb hby own_d6_73) ?_
                          exact kt
                        · refine ⟨_, _, Xk6_3, Nk6_3, ek6_3, fun target kt => ?_⟩
                          rw [(show (own_j6_0 d6_1 d6_2 x_w_xs_a6_0_0 x_w_xs_a6_0_2 x_w_ys_a6_0_0 x_w_ys_a6_0_2) = (1 : Int32) from if_neg hj6_15)] at kt
                          show Steps p.tables e below (Tk6_3.setTop (mkF m 66 #[.val (.ref a6_0), .val (.double d6_1), .second, .val (.double d6_2), .second, .val (.double (own_r7k0_0 d6_1 d6_2 x_w_xs_a6_0_0 x_w_xs_a6_0_1 x_w_ys_a6_0_0 x_w_ys_a6_0_1)), .second, .val (.double (own_r7k1_0 d6_1 d6_2 x_w_xs_a6_0_1 x_w_xs_a6_0_2 x_w_ys_a6_0_1 x_w_ys_a6_0_2)), .second, .val (.double (own_r7k2_0 d6_1 d6_2 x_w_xs_a6_0_0 x_w_xs_a6_0_2 x_w_ys_a6_0_0 x_w_ys_a6_0_2)), .second] [(.int (cmpValue (FP.dcmp (own_r7k2_0 d6_1 d6_2 x_w_xs_a6_0_0 x_w_xs_a6_0_2 x_w_ys_a6_0_0 x_w_ys_a6_0_2) (0 : UInt64)) .g))])) _
                          refine XS.ifNo Xk6_3.here hx rfl (hb hby own_d6_66) rfl (XT.i0_gt_f hj6_15) ?_
                          show Steps p.tables e below (Tk6_3.setTop (mkF m 69 #[.val (.ref a6_0), .val (.double d6_1), .second, .val (.double d6_2), .second, .val (.double (own_r7k0_0 d6_1 d6_2 x_w_xs_a6_0_0 x_w_xs_a6_0_1 x_w_ys_a6_0_0 x_w_ys_a6_0_1)), .second, .val (.double (own_r7k1_0 d6_1 d6_2 x_w_xs_a6_0_1 x_w_xs_a6_0_2 x_w_ys_a6_0_1 x_w_ys_a6_0_2)), .second, .val (.double (own_r7k2_0 d6_1 d6_2 x_w_xs_a6_0_0 x_w_xs_a6_0_2 x_w_ys_a6_0_0 x_w_ys_a6_0_2)), .second] [])) _
                          refine XS.iconst Xk6_3.here hx rfl (hb hby own_d6_69) ?_
                          show Steps p.tables e below (Tk6_3.setTop (mkF m 70 #[.val (.ref a6_0), .val (.double d6_1), .second, .val (.double d6_2), .second, .val (.double (own_r7k0_0 d6_1 d6_2 x_w_xs_a6_0_0 x_w_xs_a6_0_1 x_w_ys_a6_0_0 x_w_ys_a6_0_1)), .second, .val (.double (own_r7k1_0 d6_1 d6_2 x_w_xs_a6_0_1 x_w_xs_a6_0_2 x_w_ys_a6_0_1 x_w_ys_a6_0_2)), .second, .val (.double (own_r7k2_0 d6_1 d6_2 x_w_xs_a6_0_0 x_w_xs_a6_0_2 x_w_ys_a6_0_0 x_w_ys_a6_0_2)), .second] [(.int (1 : Int32))])) _
                          refine XS.goto Xk6_3.here hx rfl (pc0 := 70) (pc' := 74) rfl (hb hby own_d6_70) (by decide) (by decide) ?_
                          exact kt
                      refine ⟨_, _, Xj6_15, Nj6_15, ej6_15, fun target kt => ?_⟩
                      rw [(show (own_j6_1 d6_1 d6_2 x_w_xs_a6_0_0 x_w_xs_a6_0_1 x_w_xs_a6_0_2 x_w_ys_a6_0_0 x_w_ys_a6_0_1 x_w_ys_a6_0_2) = (own_j6_0 d6_1 d6_2 x_w_xs_a6_0_0 x_w_xs_a6_0_2 x_w_ys_a6_0_0 x_w_ys_a6_0_2) from if_neg hj6_14)] at kt
                      show Steps p.tables e below (Tk6_3.setTop (mkF m 59 #[.val (.ref a6_0), .val (.double d6_1), .second, .val (.double d6_2), .second, .val (.double (own_r7k0_0 d6_1 d6_2 x_w_xs_a6_0_0 x_w_xs_a6_0_1 x_w_ys_a6_0_0 x_w_ys_a6_0_1)), .second, .val (.double (own_r7k1_0 d6_1 d6_2 x_w_xs_a6_0_1 x_w_xs_a6_0_2 x_w_ys_a6_0_1 x_w_ys_a6_0_2)), .second, .val (.double (own_r7k2_0 d6_1 d6_2 x_w_xs_a6_0_0 x_w_xs_a6_0_2 x_w_ys_a6_0_0 x_w_ys_a6_0_2)), .second] [(.int (cmpValue (FP.dcmp (own_r7k1_0 d6_1 d6_2 x_w_xs_a6_0_1 x_w_xs_a6_0_2 x_w_ys_a6_0_1 x_w_ys_a6_0_2) (0 : UInt64)) .g))])) _
                      refine XS.ifNo Xk6_3.here hx rfl (hb hby own_d6_59) rfl (XT.i0_gt_f hj6_14) ?_
                      show Steps p.tables e below (Tk6_3.setTop (mkF m 62 #[.val (.ref a6_0), .val (.double d6_1), .second, .val (.double d6_2), .second, .val (.double (own_r7k0_0 d6_1 d6_2 x_w_xs_a6_0_0 x_w_xs_a6_0_1 x_w_ys_a6_0_0 x_w_ys_a6_0_1)), .second, .val (.double (own_r7k1_0 d6_1 d6_2 x_w_xs_a6_0_1 x_w_xs_a6_0_2 x_w_ys_a6_0_1 x_w_ys_a6_0_2)), .second, .val (.double (own_r7k2_0 d6_1 d6_2 x_w_xs_a6_0_0 x_w_xs_a6_0_2 x_w_ys_a6_0_0 x_w_ys_a6_0_2)), .second] [])) _
                      refine XS.dload Xk6_3.here hx rfl (hb hby own_d6_62) rfl ?_
                      show Steps p.tables e below (Tk6_3.setTop (mkF m 64 #[.val (.ref a6_0), .val (.double d6_1), .second, .val (.double d6_2), .second, .val (.double (own_r7k0_0 d6_1 d6_2 x_w_xs_a6_0_0 x_w_xs_a6_0_1 x_w_ys_a6_0_0 x_w_ys_a6_0_1)), .second, .val (.double (own_r7k1_0 d6_1 d6_2 x_w_xs_a6_0_1 x_w_xs_a6_0_2 x_w_ys_a6_0_1 x_w_ys_a6_0_2)), .second, .val (.double (own_r7k2_0 d6_1 d6_2 x_w_xs_a6_0_0 x_w_xs_a6_0_2 x_w_ys_a6_0_0 x_w_ys_a6_0_2)), .second] [(.double (own_r7k2_0 d6_1 d6_2 x_w_xs_a6_0_0 x_w_xs_a6_0_2 x_w_ys_a6_0_0 x_w_ys_a6_0_2))])) _
                      refine XS.dconst0 Xk6_3.here hx rfl (hb hby own_d6_64) (v := (0 : UInt64)) (by decide +kernel) ?_
                      show Steps p.tables e below (Tk6_3.setTop (mkF m 65 #[.val (.ref a6_0), .val (.double d6_1), .second, .val (.double d6_2), .second, .val (.double (own_r7k0_0 d6_1 d6_2 x_w_xs_a6_0_0 x_w_xs_a6_0_1 x_w_ys_a6_0_0 x_w_ys_a6_0_1)), .second, .val (.double (own_r7k1_0 d6_1 d6_2 x_w_xs_a6_0_1 x_w_xs_a6_0_2 x_w_ys_a6_0_1 x_w_ys_a6_0_2)), .second, .val (.double (own_r7k2_0 d6_1 d6_2 x_w_xs_a6_0_0 x_w_xs_a6_0_2 x_w_ys_a6_0_0 x_w_ys_a6_0_2)), .second] [(.double (0 : UInt64)), (.double (own_r7k2_0 d6_1 d6_2 x_w_xs_a6_0_0 x_w_xs_a6_0_2 x_w_ys_a6_0_0 x_w_ys_a6_0_2))])) _
                      refine XS.dcmpS Xk6_3.here hx rfl (hb hby own_d6_65) rfl rfl ?_
                      show Steps p.tables e below (Tk6_3.setTop (mkF m 66 #[.val (.ref a6_0), .val (.double d6_1), .second, .val (.double d6_2), .second, .val (.double (own_r7k0_0 d6_1 d6_2 x_w_xs_a6_0_0 x_w_xs_a6_0_1 x_w_ys_a6_0_0 x_w_ys_a6_0_1)), .second, .val (.double (own_r7k1_0 d6_1 d6_2 x_w_xs_a6_0_1 x_w_xs_a6_0_2 x_w_ys_a6_0_1 x_w_ys_a6_0_2)), .second, .val (.double (own_r7k2_0 d6_1 d6_2 x_w_xs_a6_0_0 x_w_xs_a6_0_2 x_w_ys_a6_0_0 x_w_ys_a6_0_2)), .second] [(.int (cmpValue (FP.dcmp (own_r7k2_0 d6_1 d6_2 x_w_xs_a6_0_0 x_w_xs_a6_0_2 x_w_ys_a6_0_0 x_w_ys_a6_0_2) (0 : UInt64)) .g))])) _
                      refine stj6_15 _ ?_
                      exact kt
                  refine ⟨_, _, Xj6_14, Nj6_14, ej6_14, fun target kt => ?_⟩
                  rw [(show (own_j6_2 d6_1 d6_2 x_w_xs_a6_0_0 x_w_xs_a6_0_1 x_w_xs_a6_0_2 x_w_ys_a6_0_0 x_w_ys_a6_0_1 x_w_ys_a6_0_2) = (own_j6_1 d6_1 d6_2 x_w_xs_a6_0_0 x_w_xs_a6_0_1 x_w_xs_a6_0_2 x_w_ys_a6_0_0 x_w_ys_a6_0_1 x_w_ys_a6_0_2) from if_neg hj6_13)] at kt
                  show Steps p.tables e below (Tk6_3.setTop (mkF m 52 #[.val (.ref a6_0), .val (.double d6_1), .second, .val (.double d6_2), .second, .val (.double (own_r7k0_0 d6_1 d6_2 x_w_xs_a6_0_0 x_w_xs_a6_0_1 x_w_ys_a6_0_0 x_w_ys_a6_0_1)), .second, .val (.double (own_r7k1_0 d6_1 d6_2 x_w_xs_a6_0_1 x_w_xs_a6_0_2 x_w_ys_a6_0_1 x_w_ys_a6_0_2)), .second, .val (.double (own_r7k2_0 d6_1 d6_2 x_w_xs_a6_0_0 x_w_xs_a6_0_2 x_w_ys_a6_0_0 x_w_ys_a6_0_2)), .second] [(.int (cmpValue (FP.dcmp (own_r7k0_0 d6_1 d6_2 x_w_xs_a6_0_0 x_w_xs_a6_0_1 x_w_ys_a6_0_0 x_w_ys_a6_0_1) (0 : UInt64)) .g))])) _
                  refine XS.ifNo Xk6_3.here hx rfl (hb hby own_d6_52) rfl (XT.i0_gt_f hj6_13) ?_
                  show Steps p.tables e below (Tk6_3.setTop (mkF m 55 #[.val (.ref a6_0), .val (.double d6_1), .second, .val (.double d6_2), .second, .val (.double (own_r7k0_0 d6_1 d6_2 x_w_xs_a6_0_0 x_w_xs_a6_0_1 x_w_ys_a6_0_0 x_w_ys_a6_0_1)), .second, .val (.double (own_r7k1_0 d6_1 d6_2 x_w_xs_a6_0_1 x_w_xs_a6_0_2 x_w_ys_a6_0_1 x_w_ys_a6_0_2)), .second, .val (.double (own_r7k2_0 d6_1 d6_2 x_w_xs_a6_0_0 x_w_xs_a6_0_2 x_w_ys_a6_0_0 x_w_ys_a6_0_2)), .second] [])) _
                  refine XS.dload Xk6_3.here hx rfl (hb hby own_d6_55) rfl ?_
                  show Steps p.tables e below (Tk6_3.setTop (mkF m 57 #[.val (.ref a6_0), .val (.double d6_1), .second, .val (.double d6_2), .second, .val (.double (own_r7k0_0 d6_1 d6_2 x_w_xs_a6_0_0 x_w_xs_a6_0_1 x_w_ys_a6_0_0 x_w_ys_a6_0_1)), .second, .val (.double (own_r7k1_0 d6_1 d6_2 x_w_xs_a6_0_1 x_w_xs_a6_0_2 x_w_ys_a6_0_1 x_w_ys_a6_0_2)), .second, .val (.double (own_r7k2_0 d6_1 d6_2 x_w_xs_a6_0_0 x_w_xs_a6_0_2 x_w_ys_a6_0_0 x_w_ys_a6_0_2)), .second] [(.double (own_r7k1_0 d6_1 d6_2 x_w_xs_a6_0_1 x_w_xs_a6_0_2 x_w_ys_a6_0_1 x_w_ys_a6_0_2))])) _
                  refine XS.dconst0 Xk6_3.here hx rfl (hb hby own_d6_57) (v := (0 : UInt64)) (by decide +kernel) ?_
                  show Steps p.tables e below (Tk6_3.setTop (mkF m 58 #[.val (.ref a6_0), .val (.double d6_1), .second, .val (.double d6_2), .second, .val (.double (own_r7k0_0 d6_1 d6_2 x_w_xs_a6_0_0 x_w_xs_a6_0_1 x_w_ys_a6_0_0 x_w_ys_a6_0_1)), .second, .val (.double (own_r7k1_0 d6_1 d6_2 x_w_xs_a6_0_1 x_w_xs_a6_0_2 x_w_ys_a6_0_1 x_w_ys_a6_0_2)), .second, .val (.double (own_r7k2_0 d6_1 d6_2 x_w_xs_a6_0_0 x_w_xs_a6_0_2 x_w_ys_a6_0_0 x_w_ys_a6_0_2)), .second] [(.double (0 : UInt64)), (.double (own_r7k1_0 d6_1 d6_2 x_w_xs_a6_0_1 x_w_xs_a6_0_2 x_w_ys_a6_0_1 x_w_ys_a6_0_2))])) _
                  refine XS.dcmpS Xk6_3.here hx rfl (hb hby own_d6_58) rfl rfl ?_
                  show Steps p.tables e below (Tk6_3.setTop (mkF m 59 #[.val (.ref a6_0), .val (.double d6_1), .second, .val (.double d6_2), .second, .val (.double (own_r7k0_0 d6_1 d6_2 x_w_xs_a6_0_0 x_w_xs_a6_0_1 x_w_ys_a6_0_0 x_w_ys_a6_0_1)), .second, .val (.double (own_r7k1_0 d6_1 d6_2 x_w_xs_a6_0_1 x_w_xs_a6_0_2 x_w_ys_a6_0_1 x_w_ys_a6_0_2)), .second, .val (.double (own_r7k2_0 d6_1 d6_2 x_w_xs_a6_0_0 x_w_xs_a6_0_2 x_w_ys_a6_0_0 x_w_ys_a6_0_2)), .second] [(.int (cmpValue (FP.dcmp (own_r7k1_0 d6_1 d6_2 x_w_xs_a6_0_1 x_w_xs_a6_0_2 x_w_ys_a6_0_1 x_w_ys_a6_0_2) (0 : UInt64)) .g))])) _
                  refine stj6_14 _ ?_
                  exact kt
              refine ⟨_, _, Xj6_13, Nj6_13, ej6_13, fun target kt => ?_⟩
              rw [(show (own_j6_3 d6_1 d6_2 x_w_xs_a6_0_0 x_w_xs_a6_0_1 x_w_xs_a6_0_2 x_w_ys_a6_0_0 x_w_ys_a6_0_1 x_w_ys_a6_0_2) = (own_j6_2 d6_1 d6_2 x_w_xs_a6_0_0 x_w_xs_a6_0_1 x_w_xs_a6_0_2 x_w_ys_a6_0_0 x_w_ys_a6_0_1 x_w_ys_a6_0_2) from if_pos hj6_12)] at kt
              show Steps p.tables e below (Tk6_3.setTop (mkF m 45 #[.val (.ref a6_0), .val (.double d6_1), .second, .val (.double d6_2), .second, .val (.double (own_r7k0_0 d6_1 d6_2 x_w_xs_a6_0_0 x_w_xs_a6_0_1 x_w_ys_a6_0_0 x_w_ys_a6_0_1)), .second, .val (.double (own_r7k1_0 d6_1 d6_2 x_w_xs_a6_0_1 x_w_xs_a6_0_2 x_w_ys_a6_0_1 x_w_ys_a6_0_2)), .second, .val (.double (own_r7k2_0 d6_1 d6_2 x_w_xs_a6_0_0 x_w_xs_a6_0_2 x_w_ys_a6_0_0 x_w_ys_a6_0_2)), .second] [(.int (cmpValue (FP.dcmp (own_r7k2_0 d6_1 d6_2 x_w_xs_a6_0_0 x_w_xs_a6_0_2 x_w_ys_a6_0_0 x_w_ys_a6_0_2) (0 : UInt64)) .l))])) _
              refine XS.ifNo Xk6_3.here hx rfl (hb hby own_d6_45) rfl (XT.i0_ge_f hj6_12) ?_
              show Steps p.tables e below (Tk6_3.setTop (mkF m 48 #[.val (.ref a6_0), .val (.double d6_1), .second, .val (.double d6_2), .second, .val (.double (own_r7k0_0 d6_1 d6_2 x_w_xs_a6_0_0 x_w_xs_a6_0_1 x_w_ys_a6_0_0 x_w_ys_a6_0_1)), .second, .val (.double (own_r7k1_0 d6_1 d6_2 x_w_xs_a6_0_1 x_w_xs_a6_0_2 x_w_ys_a6_0_1 x_w_ys_a6_0_2)), .second, .val (.double (own_r7k2_0 d6_1 d6_2 x_w_xs_a6_0_0 x_w_xs_a6_0_2 x_w_ys_a6_0_0 x_w_ys_a6_0_2)), .second] [])) _
              refine XS.dload Xk6_3.here hx rfl (hb hby own_d6_48) rfl ?_
              show Steps p.tables e below (Tk6_3.setTop (mkF m 50 #[.val (.ref a6_0), .val (.double d6_1), .second, .val (.double d6_2), .second, .val (.double (own_r7k0_0 d6_1 d6_2 x_w_xs_a6_0_0 x_w_xs_a6_0_1 x_w_ys_a6_0_0 x_w_ys_a6_0_1)), .second, .val (.double (own_r7k1_0 d6_1 d6_2 x_w_xs_a6_0_1 x_w_xs_a6_0_2 x_w_ys_a6_0_1 x_w_ys_a6_0_2)), .second, .val (.double (own_r7k2_0 d6_1 d6_2 x_w_xs_a6_0_0 x_w_xs_a6_0_2 x_w_ys_a6_0_0 x_w_ys_a6_0_2)), .second] [(.double (own_r7k0_0 d6_1 d6_2 x_w_xs_a6_0_0 x_w_xs_a6_0_1 x_w_ys_a6_0_0 x_w_ys_a6_0_1))])) _
              refine XS.dconst0 Xk6_3.here hx rfl (hb hby own_d6_50) (v := (0 : UInt64)) (by decide +kernel) ?_
              show Steps p.tables e below (Tk6_3.setTop (mkF m 51 #[.val (.ref a6_0), .val (.double d6_1), .second, .val (.double d6_2), .second, .val (.double (own_r7k0_0 d6_1 d6_2 x_w_xs_a6_0_0 x_w_xs_a6_0_1 x_w_ys_a6_0_0 x_w_ys_a6_0_1)), .second, .val (.double (own_r7k1_0 d6_1 d6_2 x_w_xs_a6_0_1 x_w_xs_a6_0_2 x_w_ys_a6_0_1 x_w_ys_a6_0_2)), .second, .val (.double (own_r7k2_0 d6_1 d6_2 x_w_xs_a6_0_0 x_w_xs_a6_0_2 x_w_ys_a6_0_0 x_w_ys_a6_0_2)), .second] [(.double (0 : UInt64)), (.double (own_r7k0_0 d6_1 d6_2 x_w_xs_a6_0_0 x_w_xs_a6_0_1 x_w_ys_a6_0_0 x_w_ys_a6_0_1))])) _
              refine XS.dcmpS Xk6_3.here hx rfl (hb hby own_d6_51) rfl rfl ?_
              show Steps p.tables e below (Tk6_3.setTop (mkF m 52 #[.val (.ref a6_0), .val (.double d6_1), .second, .val (.double d6_2), .second, .val (.double (own_r7k0_0 d6_1 d6_2 x_w_xs_a6_0_0 x_w_xs_a6_0_1 x_w_ys_a6_0_0 x_w_ys_a6_0_1)), .second, .val (.double (own_r7k1_0 d6_1 d6_2 x_w_xs_a6_0_1 x_w_xs_a6_0_2 x_w_ys_a6_0_1 x_w_ys_a6_0_2)), .second, .val (.double (own_r7k2_0 d6_1 d6_2 x_w_xs_a6_0_0 x_w_xs_a6_0_2 x_w_ys_a6_0_0 x_w_ys_a6_0_2)), .second] [(.int (cmpValue (FP.dcmp (own_r7k0_0 d6_1 d6_2 x_w_xs_a6_0_0 x_w_xs_a6_0_1 x_w_ys_a6_0_0 x_w_ys_a6_0_1) (0 : UInt64)) .g))])) _
              refine stj6_13 _ ?_
              exact kt
            · refine ⟨_, _, Xk6_3, Nk6_3, ek6_3, fun target kt => ?_⟩
              rw [(show (own_j6_3 d6_1 d6_2 x_w_xs_a6_0_0 x_w_xs_a6_0_1 x_w_xs_a6_0_2 x_w_ys_a6_0_0 x_w_ys_a6_0_1 x_w_ys_a6_0_2) = (1 : Int32) from if_neg hj6_12)] at kt
              show Steps p.tables e below (Tk6_3.setTop (mkF m 45 #[.val (.ref a6_0), .val (.double d6_1), .second, .val (.double d6_2), .second, .val (.double (own_r7k0_0 d6_1 d6_2 x_w_xs_a6_0_0 x_w_xs_a6_0_1 x_w_ys_a6_0_0 x_w_ys_a6_0_1)), .second, .val (.double (own_r7k1_0 d6_1 d6_2 x_w_xs_a6_0_1 x_w_xs_a6_0_2 x_w_ys_a6_0_1 x_w_ys_a6_0_2)), .second, .val (.double (own_r7k2_0 d6_1 d6_2 x_w_xs_a6_0_0 x_w_xs_a6_0_2 x_w_ys_a6_0_0 x_w_ys_a6_0_2)), .second] [(.int (cmpValue (FP.dcmp (own_r7k2_0 d6_1 d6_2 x_w_xs_a6_0_0 x_w_xs_a6_0_2 x_w_ys_a6_0_0 x_w_ys_a6_0_2) (0 : UInt64)) .l))])) _
              refine XS.ifYes Xk6_3.here hx rfl (pc0 := 45) (pc' := 69) rfl (hb hby own_d6_45) rfl (XT.i0_ge_t hj6_12) (by decide) (by decide) ?_
              show Steps p.tables e below (Tk6_3.setTop (mkF m 69 #[.val (.ref a6_0), .val (.double d6_1), .second, .val (.double d6_2), .second, .val (.double (own_r7k0_0 d6_1 d6_2 x_w_xs_a6_0_0 x_w_xs_a6_0_1 x_w_ys_a6_0_0 x_w_ys_a6_0_1)), .second, .val (.double (own_r7k1_0 d6_1 d6_2 x_w_xs_a6_0_1 x_w_xs_a6_0_2 x_w_ys_a6_0_1 x_w_ys_a6_0_2)), .second, .val (.double (own_r7k2_0 d6_1 d6_2 x_w_xs_a6_0_0 x_w_xs_a6_0_2 x_w_ys_a6_0_0 x_w_ys_a6_0_2)), .second] [])) _
              refine XS.iconst Xk6_3.here hx rfl (hb hby own_d6_69) ?_
              show Steps p.tables e below (Tk6_3.setTop (mkF m 70 #[.val (.ref a6_0), .val (.double d6_1), .second, .val (.double d6_2), .second, .val (.double (own_r7k0_0 d6_1 d6_2 x_w_xs_a6_0_0 x_w_xs_a6_0_1 x_w_ys_a6_0_0 x_w_ys_a6_0_1)), .second, .val (.double (own_r7k1_0 d6_1 d6_2 x_w_xs_a6_0_1 x_w_xs_a6_0_2 x_w_ys_a6_0_1 x_w_ys_a6_0_2)), .second, .val (.double (own_r7k2_0 d6_1 d6_2 x_w_xs_a6_0_0 x_w_xs_a6_0_2 x_w_ys_a6_0_0 x_w_ys_a6_0_2)), .second] [(.int (1 : Int32))])) _
              refine XS.goto Xk6_3.here hx rfl (pc0 := 70) (pc' := 74) rfl (hb hby own_d6_70) (by decide) (by decide) ?_
              exact kt
          refine ⟨_, _, Xj6_12, Nj6_12, ej6_12, fun target kt => ?_⟩
          rw [(show (own_j6_4 d6_1 d6_2 x_w_xs_a6_0_0 x_w_xs_a6_0_1 x_w_xs_a6_0_2 x_w_ys_a6_0_0 x_w_ys_a6_0_1 x_w_ys_a6_0_2) = (own_j6_3 d6_1 d6_2 x_w_xs_a6_0_0 x_w_xs_a6_0_1 x_w_xs_a6_0_2 x_w_ys_a6_0_0 x_w_ys_a6_0_1 x_w_ys_a6_0_2) from if_neg hj6_8)] at kt
          show Steps p.tables e below (Tk6_3.setTop (mkF m 38 #[.val (.ref a6_0), .val (.double d6_1), .second, .val (.double d6_2), .second, .val (.double (own_r7k0_0 d6_1 d6_2 x_w_xs_a6_0_0 x_w_xs_a6_0_1 x_w_ys_a6_0_0 x_w_ys_a6_0_1)), .second, .val (.double (own_r7k1_0 d6_1 d6_2 x_w_xs_a6_0_1 x_w_xs_a6_0_2 x_w_ys_a6_0_1 x_w_ys_a6_0_2)), .second, .val (.double (own_r7k2_0 d6_1 d6_2 x_w_xs_a6_0_0 x_w_xs_a6_0_2 x_w_ys_a6_0_0 x_w_ys_a6_0_2)), .second] [(.int (cmpValue (FP.dcmp (own_r7k1_0 d6_1 d6_2 x_w_xs_a6_0_1 x_w_xs_a6_0_2 x_w_ys_a6_0_1 x_w_ys_a6_0_2) (0 : UInt64)) .l))])) _
          refine XS.ifNo Xk6_3.here hx rfl (hb hby own_d6_38) rfl (XT.i0_lt_f hj6_8) ?_
          show Steps p.tables e below (Tk6_3.setTop (mkF m 41 #[.val (.ref a6_0), .val (.double d6_1), .second, .val (.double d6_2), .second, .val (.double (own_r7k0_0 d6_1 d6_2 x_w_xs_a6_0_0 x_w_xs_a6_0_1 x_w_ys_a6_0_0 x_w_ys_a6_0_1)), .second, .val (.double (own_r7k1_0 d6_1 d6_2 x_w_xs_a6_0_1 x_w_xs_a6_0_2 x_w_ys_a6_0_1 x_w_ys_a6_0_2)), .second, .val (.double (own_r7k2_0 d6_1 d6_2 x_w_xs_a6_0_0 x_w_xs_a6_0_2 x_w_ys_a6_0_0 x_w_ys_a6_0_2)), .second] [])) _
          refine XS.dload Xk6_3.here hx rfl (hb hby own_d6_41) rfl ?_
          show Steps p.tables e below (Tk6_3.setTop (mkF m 43 #[.val (.ref a6_0), .val (.double d6_1), .second, .val (.double d6_2), .second, .val (.double (own_r7k0_0 d6_1 d6_2 x_w_xs_a6_0_0 x_w_xs_a6_0_1 x_w_ys_a6_0_0 x_w_ys_a6_0_1)), .second, .val (.double (own_r7k1_0 d6_1 d6_2 x_w_xs_a6_0_1 x_w_xs_a6_0_2 x_w_ys_a6_0_1 x_w_ys_a6_0_2)), .second, .val (.double (own_r7k2_0 d6_1 d6_2 x_w_xs_a6_0_0 x_w_xs_a6_0_2 x_w_ys_a6_0_0 x_w_ys_a6_0_2)), .second] [(.double (own_r7k2_0 d6_1 d6_2 x_w_xs_a6_0_0 x_w_xs_a6_0_2 x_w_ys_a6_0_0 x_w_ys_a6_0_2))])) _
          refine XS.dconst0 Xk6_3.here hx rfl (hb hby own_d6_43) (v := (0 : UInt64)) (by decide +kernel) ?_
          show Steps p.tables e below (Tk6_3.setTop (mkF m 44 #[.val (.ref a6_0), .val (.double d6_1), .second, .val (.double d6_2), .second, .val (.double (own_r7k0_0 d6_1 d6_2 x_w_xs_a6_0_0 x_w_xs_a6_0_1 x_w_ys_a6_0_0 x_w_ys_a6_0_1)), .second, .val (.double (own_r7k1_0 d6_1 d6_2 x_w_xs_a6_0_1 x_w_xs_a6_0_2 x_w_ys_a6_0_1 x_w_ys_a6_0_2)), .second, .val (.double (own_r7k2_0 d6_1 d6_2 x_w_xs_a6_0_0 x_w_xs_a6_0_2 x_w_ys_a6_0_0 x_w_ys_a6_0_2)), .second] [(.double (0 : UInt64)), (.double (own_r7k2_0 d6_1 d6_2 x_w_xs_a6_0_0 x_w_xs_a6_0_2 x_w_ys_a6_0_0 x_w_ys_a6_0_2))])) _
          refine XS.dcmpS Xk6_3.here hx rfl (hb hby own_d6_44) rfl rfl ?_
          show Steps p.tables e below (Tk6_3.setTop (mkF m 45 #[.val (.ref a6_0), .val (.double d6_1), .second, .val (.double d6_2), .second, .val (.double (own_r7k0_0 d6_1 d6_2 x_w_xs_a6_0_0 x_w_xs_a6_0_1 x_w_ys_a6_0_0 x_w_ys_a6_0_1)), .second, .val (.double (own_r7k1_0 d6_1 d6_2 x_w_xs_a6_0_1 x_w_xs_a6_0_2 x_w_ys_a6_0_1 x_w_ys_a6_0_2)), .second, .val (.double (own_r7k2_0 d6_1 d6_2 x_w_xs_a6_0_0 x_w_xs_a6_0_2 x_w_ys_a6_0_0 x_w_ys_a6_0_2)), .second] [(.int (cmpValue (FP.dcmp (own_r7k2_0 d6_1 d6_2 x_w_xs_a6_0_0 x_w_xs_a6_0_2 x_w_ys_a6_0_0 x_w_ys_a6_0_2) (0 : UInt64)) .l))])) _
          refine stj6_12 _ ?_
          exact kt
      refine ⟨_, _, Xj6_8, Nj6_8, ej6_8, fun target kt => ?_⟩
      rw [(show (own_j6_5 d6_1 d6_2 x_w_xs_a6_0_0 x_w_xs_a6_0_1 x_w_xs_a6_0_2 x_w_ys_a6_0_0 x_w_ys_a6_0_1 x_w_ys_a6_0_2) = (own_j6_4 d6_1 d6_2 x_w_xs_a6_0_0 x_w_xs_a6_0_1 x_w_xs_a6_0_2 x_w_ys_a6_0_0 x_w_ys_a6_0_1 x_w_ys_a6_0_2) from if_neg hj6_4)] at kt
      show Steps p.tables e below (Tk6_3.setTop (mkF m 31 #[.val (.ref a6_0), .val (.double d6_1), .second, .val (.double d6_2), .second, .val (.double (own_r7k0_0 d6_1 d6_2 x_w_xs_a6_0_0 x_w_xs_a6_0_1 x_w_ys_a6_0_0 x_w_ys_a6_0_1)), .second, .val (.double (own_r7k1_0 d6_1 d6_2 x_w_xs_a6_0_1 x_w_xs_a6_0_2 x_w_ys_a6_0_1 x_w_ys_a6_0_2)), .second, .val (.double (own_r7k2_0 d6_1 d6_2 x_w_xs_a6_0_0 x_w_xs_a6_0_2 x_w_ys_a6_0_0 x_w_ys_a6_0_2)), .second] [(.int (cmpValue (FP.dcmp (own_r7k0_0 d6_1 d6_2 x_w_xs_a6_0_0 x_w_xs_a6_0_1 x_w_ys_a6_0_0 x_w_ys_a6_0_1) (0 : UInt64)) .l))])) _
      refine XS.ifNo Xk6_3.here hx rfl (hb hby own_d6_31) rfl (XT.i0_lt_f hj6_4) ?_
      show Steps p.tables e below (Tk6_3.setTop (mkF m 34 #[.val (.ref a6_0), .val (.double d6_1), .second, .val (.double d6_2), .second, .val (.double (own_r7k0_0 d6_1 d6_2 x_w_xs_a6_0_0 x_w_xs_a6_0_1 x_w_ys_a6_0_0 x_w_ys_a6_0_1)), .second, .val (.double (own_r7k1_0 d6_1 d6_2 x_w_xs_a6_0_1 x_w_xs_a6_0_2 x_w_ys_a6_0_1 x_w_ys_a6_0_2)), .second, .val (.double (own_r7k2_0 d6_1 d6_2 x_w_xs_a6_0_0 x_w_xs_a6_0_2 x_w_ys_a6_0_0 x_w_ys_a6_0_2)), .second] [])) _
      refine XS.dload Xk6_3.here hx rfl (hb hby own_d6_34) rfl ?_
      show Steps p.tables e below (Tk6_3.setTop (mkF m 36 #[.val (.ref a6_0), .val (.double d6_1), .second, .val (.double d6_2), .second, .val (.double (own_r7k0_0 d6_1 d6_2 x_w_xs_a6_0_0 x_w_xs_a6_0_1 x_w_ys_a6_0_0 x_w_ys_a6_0_1)), .second, .val (.double (own_r7k1_0 d6_1 d6_2 x_w_xs_a6_0_1 x_w_xs_a6_0_2 x_w_ys_a6_0_1 x_w_ys_a6_0_2)), .second, .val (.double (own_r7k2_0 d6_1 d6_2 x_w_xs_a6_0_0 x_w_xs_a6_0_2 x_w_ys_a6_0_0 x_w_ys_a6_0_2)), .second] [(.double (own_r7k1_0 d6_1 d6_2 x_w_xs_a6_0_1 x_w_xs_a6_0_2 x_w_ys_a6_0_1 x_w_ys_a6_0_2))])) _
      refine XS.dconst0 Xk6_3.here hx rfl (hb hby own_d6_36) (v := (0 : UInt64)) (by decide +kernel) ?_
      show Steps p.tables e below (Tk6_3.setTop (mkF m 37 #[.val (.ref a6_0), .val (.double d6_1), .second, .val (.double d6_2), .second, .val (.double (own_r7k0_0 d6_1 d6_2 x_w_xs_a6_0_0 x_w_xs_a6_0_1 x_w_ys_a6_0_0 x_w_ys_a6_0_1)), .second, .val (.double (own_r7k1_0 d6_1 d6_2 x_w_xs_a6_0_1 x_w_xs_a6_0_2 x_w_ys_a6_0_1 x_w_ys_a6_0_2)), .second, .val (.double (own_r7k2_0 d6_1 d6_2 x_w_xs_a6_0_0 x_w_xs_a6_0_2 x_w_ys_a6_0_0 x_w_ys_a6_0_2)), .second] [(.double (0 : UInt64)), (.double (own_r7k1_0 d6_1 d6_2 x_w_xs_a6_0_1 x_w_xs_a6_0_2 x_w_ys_a6_0_1 x_w_ys_a6_0_2))])) _
      refine XS.dcmpS Xk6_3.here hx rfl (hb hby own_d6_37) rfl rfl ?_
      show Steps p.tables e below (Tk6_3.setTop (mkF m 38 #[.val (.ref a6_0), .val (.double d6_1), .second, .val (.double d6_2), .second, .val (.double (own_r7k0_0 d6_1 d6_2 x_w_xs_a6_0_0 x_w_xs_a6_0_1 x_w_ys_a6_0_0 x_w_ys_a6_0_1)), .second, .val (.double (own_r7k1_0 d6_1 d6_2 x_w_xs_a6_0_1 x_w_xs_a6_0_2 x_w_ys_a6_0_1 x_w_ys_a6_0_2)), .second, .val (.double (own_r7k2_0 d6_1 d6_2 x_w_xs_a6_0_0 x_w_xs_a6_0_2 x_w_ys_a6_0_0 x_w_ys_a6_0_2)), .second] [(.int (cmpValue (FP.dcmp (own_r7k1_0 d6_1 d6_2 x_w_xs_a6_0_1 x_w_xs_a6_0_2 x_w_ys_a6_0_1 x_w_ys_a6_0_2) (0 : UInt64)) .l))])) _
      refine stj6_8 _ ?_
      exact kt
  obtain ⟨fs, hr, hrun, hended, hW, hsame⟩ := Xj6_4.leave (v := some (.int (nar .boolean (own_j6_5 d6_1 d6_2 x_w_xs_a6_0_0 x_w_xs_a6_0_1 x_w_xs_a6_0_2 x_w_ys_a6_0_0 x_w_ys_a6_0_1 x_w_ys_a6_0_2)))) (fun h => by rw [Bd.returns] at h; cases h)
  refine ⟨_, _, pre0 _ (?_), hrun, hended, _, _, rfl, ?_, ⟨_, rfl⟩, hW, hsame.mono (by decide) (by decide)⟩
  · show Steps p.tables e below (s₁.setTop (mkF m 0 #[.val (.ref a6_0), .val (.double d6_1), .second, .val (.double d6_2), .second, .unset, .unset, .unset, .unset, .unset, .unset] [])) _
    refine XS.aloadN X0.here hx rfl (hb hby own_d6_0) rfl rfl ?_
    show Steps p.tables e below (s₁.setTop (mkF m 1 #[.val (.ref a6_0), .val (.double d6_1), .second, .val (.double d6_2), .second, .unset, .unset, .unset, .unset, .unset, .unset] [(.ref a6_0)])) _
    refine XS.iconst X0.here hx rfl (hb hby own_d6_1) ?_
    show Steps p.tables e below (s₁.setTop (mkF m 2 #[.val (.ref a6_0), .val (.double d6_1), .second, .val (.double d6_2), .second, .unset, .unset, .unset, .unset, .unset, .unset] [(.int (0 : Int32)), (.ref a6_0)])) _
    refine XS.dloadN X0.here hx rfl (hb hby own_d6_2) rfl ?_
    show Steps p.tables e below (s₁.setTop (mkF m 3 #[.val (.ref a6_0), .val (.double d6_1), .second, .val (.double d6_2), .second, .unset, .unset, .unset, .unset, .unset, .unset] [(.double d6_1), (.int (0 : Int32)), (.ref a6_0)])) _
    refine XS.dloadN X0.here hx rfl (hb hby own_d6_3) rfl ?_
    show Steps p.tables e below (s₁.setTop (mkF m 4 #[.val (.ref a6_0), .val (.double d6_1), .second, .val (.double d6_2), .second, .unset, .unset, .unset, .unset, .unset, .unset] [(.double d6_2), (.double d6_1), (.int (0 : Int32)), (.ref a6_0)])) _
    refine stk6_1.trans ?_
    show Steps p.tables e below (Tk6_1.setTop (mkF m 7 #[.val (.ref a6_0), .val (.double d6_1), .second, .val (.double d6_2), .second, .unset, .unset, .unset, .unset, .unset, .unset] [(.double (own_r7k0_0 d6_1 d6_2 x_w_xs_a6_0_0 x_w_xs_a6_0_1 x_w_ys_a6_0_0 x_w_ys_a6_0_1))])) _
    refine XS.dstore Xk6_1.here hx rfl (hb hby own_d6_7) rfl (l' := #[.val (.ref a6_0), .val (.double d6_1), .second, .val (.double d6_2), .second, .val (.double (own_r7k0_0 d6_1 d6_2 x_w_xs_a6_0_0 x_w_xs_a6_0_1 x_w_ys_a6_0_0 x_w_ys_a6_0_1)), .second, .unset, .unset, .unset, .unset]) rfl ?_
    show Steps p.tables e below (Tk6_1.setTop (mkF m 9 #[.val (.ref a6_0), .val (.double d6_1), .second, .val (.double d6_2), .second, .val (.double (own_r7k0_0 d6_1 d6_2 x_w_xs_a6_0_0 x_w_xs_a6_0_1 x_w_ys_a6_0_0 x_w_ys_a6_0_1)), .second, .unset, .unset, .unset, .unset] [])) _
    refine XS.aloadN Xk6_1.here hx rfl (hb hby own_d6_9) rfl rfl ?_
    show Steps p.tables e below (Tk6_1.setTop (mkF m 10 #[.val (.ref a6_0), .val (.double d6_1), .second, .val (.double d6_2), .second, .val (.double (own_r7k0_0 d6_1 d6_2 x_w_xs_a6_0_0 x_w_xs_a6_0_1 x_w_ys_a6_0_0 x_w_ys_a6_0_1)), .second, .unset, .unset, .unset, .unset] [(.ref a6_0)])) _
    refine XS.iconst Xk6_1.here hx rfl (hb hby own_d6_10) ?_
    show Steps p.tables e below (Tk6_1.setTop (mkF m 11 #[.val (.ref a6_0), .val (.double d6_1), .second, .val (.double d6_2), .second, .val (.double (own_r7k0_0 d6_1 d6_2 x_w_xs_a6_0_0 x_w_xs_a6_0_1 x_w_ys_a6_0_0 x_w_ys_a6_0_1)), .second, .unset, .unset, .unset, .unset] [(.int (1 : Int32)), (.ref a6_0)])) _
    refine XS.dloadN Xk6_1.here hx rfl (hb hby own_d6_11) rfl ?_
    show Steps p.tables e below (Tk6_1.setTop (mkF m 12 #[.val (.ref a6_0), .val (.double d6_1), .second, .val (.double d6_2), .second, .val (.double (own_r7k0_0 d6_1 d6_2 x_w_xs_a6_0_0 x_w_xs_a6_0_1 x_w_ys_a6_0_0 x_w_ys_a6_0_1)), .second, .unset, .unset, .unset, .unset] [(.double d6_1), (.int (1 : Int32)), (.ref a6_0)])) _
    refine XS.dloadN Xk6_1.here hx rfl (hb hby own_d6_12) rfl ?_
    show Steps p.tables e below (Tk6_1.setTop (mkF m 13 #[.val (.ref a6_0), .val (.double d6_1), .second, .val (.double d6_2), .second, .val (.double (own_r7k0_0 d6_1 d6_2 x_w_xs_a6_0_0 x_w_xs_a6_0_1 x_w_ys_a6_0_0 x_w_ys_a6_0_1)), .second, .unset, .unset, .unset, .unset] [(.double d6_2), (.double d6_1), (.int (1 : Int32)), (.ref a6_0)])) _
    refine stk6_2.trans ?_
    show Steps p.tables e below (Tk6_2.setTop (mkF m 16 #[.val (.ref a6_0), .val (.double d6_1), .second, .val (.double d6_2), .second, .val (.double (own_r7k0_0 d6_1 d6_2 x_w_xs_a6_0_0 x_w_xs_a6_0_1 x_w_ys_a6_0_0 x_w_ys_a6_0_1)), .second, .unset, .unset, .unset, .unset] [(.double (own_r7k1_0 d6_1 d6_2 x_w_xs_a6_0_1 x_w_xs_a6_0_2 x_w_ys_a6_0_1 x_w_ys_a6_0_2))])) _
    refine XS.dstore Xk6_2.here hx rfl (hb hby own_d6_16) rfl (l' := #[.val (.ref a6_0), .val (.double d6_1), .second, .val (.double d6_2), .second, .val (.double (own_r7k0_0 d6_1 d6_2 x_w_xs_a6_0_0 x_w_xs_a6_0_1 x_w_ys_a6_0_0 x_w_ys_a6_0_1)), .second, .val (.double (own_r7k1_0 d6_1 d6_2 x_w_xs_a6_0_1 x_w_xs_a6_0_2 x_w_ys_a6_0_1 x_w_ys_a6_0_2)), .second, .unset, .unset]) rfl ?_
    show Steps p.tables e below (Tk6_2.setTop (mkF m 18 #[.val (.ref a6_0), .val (.double d6_1), .second, .val (.double d6_2), .second, .val (.double (own_r7k0_0 d6_1 d6_2 x_w_xs_a6_0_0 x_w_xs_a6_0_1 x_w_ys_a6_0_0 x_w_ys_a6_0_1)), .second, .val (.double (own_r7k1_0 d6_1 d6_2 x_w_xs_a6_0_1 x_w_xs_a6_0_2 x_w_ys_a6_0_1 x_w_ys_a6_0_2)), .second, .unset, .unset] [])) _
    refine XS.aloadN Xk6_2.here hx rfl (hb hby own_d6_18) rfl rfl ?_
    show Steps p.tables e below (Tk6_2.setTop (mkF m 19 #[.val (.ref a6_0), .val (.double d6_1), .second, .val (.double d6_2), .second, .val (.double (own_r7k0_0 d6_1 d6_2 x_w_xs_a6_0_0 x_w_xs_a6_0_1 x_w_ys_a6_0_0 x_w_ys_a6_0_1)), .second, .val (.double (own_r7k1_0 d6_1 d6_2 x_w_xs_a6_0_1 x_w_xs_a6_0_2 x_w_ys_a6_0_1 x_w_ys_a6_0_2)), .second, .unset, .unset] [(.ref a6_0)])) _
    refine XS.iconst Xk6_2.here hx rfl (hb hby own_d6_19) ?_
    show Steps p.tables e below (Tk6_2.setTop (mkF m 20 #[.val (.ref a6_0), .val (.double d6_1), .second, .val (.double d6_2), .second, .val (.double (own_r7k0_0 d6_1 d6_2 x_w_xs_a6_0_0 x_w_xs_a6_0_1 x_w_ys_a6_0_0 x_w_ys_a6_0_1)), .second, .val (.double (own_r7k1_0 d6_1 d6_2 x_w_xs_a6_0_1 x_w_xs_a6_0_2 x_w_ys_a6_0_1 x_w_ys_a6_0_2)), .second, .unset, .unset] [(.int (2 : Int32)), (.ref a6_0)])) _
    refine XS.dloadN Xk6_2.here hx rfl (hb hby own_d6_20) rfl ?_
    show Steps p.tables e below (Tk6_2.setTop (mkF m 21 #[.val (.ref a6_0), .val (.double d6_1), .second, .val (.double d6_2), .second, .val (.double (own_r7k0_0 d6_1 d6_2 x_w_xs_a6_0_0 x_w_xs_a6_0_1 x_w_ys_a6_0_0 x_w_ys_a6_0_1)), .second, .val (.double (own_r7k1_0 d6_1 d6_2 x_w_xs_a6_0_1 x_w_xs_a6_0_2 x_w_ys_a6_0_1 x_w_ys_a6_0_2)), .second, .unset, .unset] [(.double d6_1), (.int (2 : Int32)), (.ref a6_0)])) _
    refine XS.dloadN Xk6_2.here hx rfl (hb hby own_d6_21) rfl ?_
    show Steps p.tables e below (Tk6_2.setTop (mkF m 22 #[.val (.ref a6_0), .val (.double d6_1), .second, .val (.double d6_2), .second, .val (.double (own_r7k0_0 d6_1 d6_2 x_w_xs_a6_0_0 x_w_xs_a6_0_1 x_w_ys_a6_0_0 x_w_ys_a6_0_1)), .second, .val (.double (own_r7k1_0 d6_1 d6_2 x_w_xs_a6_0_1 x_w_xs_a6_0_2 x_w_ys_a6_0_1 x_w_ys_a6_0_2)), .second, .unset, .unset] [(.double d6_2), (.double d6_1), (.int (2 : Int32)), (.ref a6_0)])) _
    refine stk6_3.trans ?_
    show Steps p.tables e below (Tk6_3.setTop (mkF m 25 #[.val (.ref a6_0), .val (.double d6_1), .second, .val (.double d6_2), .second, .val (.double (own_r7k0_0 d6_1 d6_2 x_w_xs_a6_0_0 x_w_xs_a6_0_1 x_w_ys_a6_0_0 x_w_ys_a6_0_1)), .second, .val (.double (own_r7k1_0 d6_1 d6_2 x_w_xs_a6_0_1 x_w_xs_a6_0_2 x_w_ys_a6_0_1 x_w_ys_a6_0_2)), .second, .unset, .unset] [(.double (own_r7k2_0 d6_1 d6_2 x_w_xs_a6_0_0 x_w_xs_a6_0_2 x_w_ys_a6_0_0 x_w_ys_a6_0_2))])) _
    refine XS.dstore Xk6_3.here hx rfl (hb hby own_d6_25) rfl (l' := #[.val (.ref a6_0), .val (.double d6_1), .second, .val (.double d6_2), .second, .val (.double (own_r7k0_0 d6_1 d6_2 x_w_xs_a6_0_0 x_w_xs_a6_0_1 x_w_ys_a6_0_0 x_w_ys_a6_0_1)), .second, .val (.double (own_r7k1_0 d6_1 d6_2 x_w_xs_a6_0_1 x_w_xs_a6_0_2 x_w_ys_a6_0_1 x_w_ys_a6_0_2)), .second, .val (.double (own_r7k2_0 d6_1 d6_2 x_w_xs_a6_0_0 x_w_xs_a6_0_2 x_w_ys_a6_0_0 x_w_ys_a6_0_2)), .second]) rfl ?_
    show Steps p.tables e below (Tk6_3.setTop (mkF m 27 #[.val (.ref a6_0), .val (.double d6_1), .second, .val (.double d6_2), .second, .val (.double (own_r7k0_0 d6_1 d6_2 x_w_xs_a6_0_0 x_w_xs_a6_0_1 x_w_ys_a6_0_0 x_w_ys_a6_0_1)), .second, .val (.double (own_r7k1_0 d6_1 d6_2 x_w_xs_a6_0_1 x_w_xs_a6_0_2 x_w_ys_a6_0_1 x_w_ys_a6_0_2)), .second, .val (.double (own_r7k2_0 d6_1 d6_2 x_w_xs_a6_0_0 x_w_xs_a6_0_2 x_w_ys_a6_0_0 x_w_ys_a6_0_2)), .second] [])) _
    refine XS.dload Xk6_3.here hx rfl (hb hby own_d6_27) rfl ?_
    show Steps p.tables e below (Tk6_3.setTop (mkF m 29 #[.val (.ref a6_0), .val (.double d6_1), .second, .val (.double d6_2), .second, .val (.double (own_r7k0_0 d6_1 d6_2 x_w_xs_a6_0_0 x_w_xs_a6_0_1 x_w_ys_a6_0_0 x_w_ys_a6_0_1)), .second, .val (.double (own_r7k1_0 d6_1 d6_2 x_w_xs_a6_0_1 x_w_xs_a6_0_2 x_w_ys_a6_0_1 x_w_ys_a6_0_2)), .second, .val (.double (own_r7k2_0 d6_1 d6_2 x_w_xs_a6_0_0 x_w_xs_a6_0_2 x_w_ys_a6_0_0 x_w_ys_a6_0_2)), .second] [(.double (own_r7k0_0 d6_1 d6_2 x_w_xs_a6_0_0 x_w_xs_a6_0_1 x_w_ys_a6_0_0 x_w_ys_a6_0_1))])) _
    refine XS.dconst0 Xk6_3.here hx rfl (hb hby own_d6_29) (v := (0 : UInt64)) (by decide +kernel) ?_
    show Steps p.tables e below (Tk6_3.setTop (mkF m 30 #[.val (.ref a6_0), .val (.double d6_1), .second, .val (.double d6_2), .second, .val (.double (own_r7k0_0 d6_1 d6_2 x_w_xs_a6_0_0 x_w_xs_a6_0_1 x_w_ys_a6_0_0 x_w_ys_a6_0_1)), .second, .val (.double (own_r7k1_0 d6_1 d6_2 x_w_xs_a6_0_1 x_w_xs_a6_0_2 x_w_ys_a6_0_1 x_w_ys_a6_0_2)), .second, .val (.double (own_r7k2_0 d6_1 d6_2 x_w_xs_a6_0_0 x_w_xs_a6_0_2 x_w_ys_a6_0_0 x_w_ys_a6_0_2)), .second] [(.double (0 : UInt64)), (.double (own_r7k0_0 d6_1 d6_2 x_w_xs_a6_0_0 x_w_xs_a6_0_1 x_w_ys_a6_0_0 x_w_ys_a6_0_1))])) _
    refine XS.dcmpS Xk6_3.here hx rfl (hb hby own_d6_30) rfl rfl ?_
    show Steps p.tables e below (Tk6_3.setTop (mkF m 31 #[.val (.ref a6_0), .val (.double d6_1), .second, .val (.double d6_2), .second, .val (.double (own_r7k0_0 d6_1 d6_2 x_w_xs_a6_0_0 x_w_xs_a6_0_1 x_w_ys_a6_0_0 x_w_ys_a6_0_1)), .second, .val (.double (own_r7k1_0 d6_1 d6_2 x_w_xs_a6_0_1 x_w_xs_a6_0_2 x_w_ys_a6_0_1 x_w_ys_a6_0_2)), .second, .val (.double (own_r7k2_0 d6_1 d6_2 x_w_xs_a6_0_0 x_w_xs_a6_0_2 x_w_ys_a6_0_0 x_w_ys_a6_0_2)), .second] [(.int (cmpValue (FP.dcmp (own_r7k0_0 d6_1 d6_2 x_w_xs_a6_0_0 x_w_xs_a6_0_1 x_w_ys_a6_0_0 x_w_ys_a6_0_1) (0 : UInt64)) .l))])) _
    refine stj6_4 _ ?_
    show Steps p.tables e below (Tj6_4.setTop (mkF m 74 #[.val (.ref a6_0), .val (.double d6_1), .second, .val (.double d6_2), .second, .val (.double (own_r7k0_0 d6_1 d6_2 x_w_xs_a6_0_0 x_w_xs_a6_0_1 x_w_ys_a6_0_0 x_w_ys_a6_0_1)), .second, .val (.double (own_r7k1_0 d6_1 d6_2 x_w_xs_a6_0_1 x_w_xs_a6_0_2 x_w_ys_a6_0_1 x_w_ys_a6_0_2)), .second, .val (.double (own_r7k2_0 d6_1 d6_2 x_w_xs_a6_0_0 x_w_xs_a6_0_2 x_w_ys_a6_0_0 x_w_ys_a6_0_2)), .second] [(.int (own_j6_5 d6_1 d6_2 x_w_xs_a6_0_0 x_w_xs_a6_0_1 x_w_xs_a6_0_2 x_w_ys_a6_0_0 x_w_ys_a6_0_1 x_w_ys_a6_0_2))])) _
    exact retN Xj6_4 hx (t := .boolean) Bd.returns (by simp) (hb hby own_d6_74) hr
  · show own_Q6 Z a6_0 d6_1 d6_2 w_xs_a6_0 k_w_xs_a6_0 x_w_xs_a6_0_0 x_w_xs_a6_0_1 x_w_xs_a6_0_2 w_ys_a6_0 k_w_ys_a6_0 x_w_ys_a6_0_0 x_w_ys_a6_0_1 x_w_ys_a6_0_2 h0 n0 _ Tj6_4.heap _
    rw [ej6_4]
    exact ⟨rfl, Nj6_4, rfl⟩
theorem own_pd1 : parseMethodDescriptor "(I)I" = some ⟨[.int], some .int⟩ := by decide +kernel
theorem own_pd2 : parseMethodDescriptor "(JJJJJJ)J" = some ⟨[.long, .long, .long, .long, .long, .long], some .long⟩ := by decide +kernel
theorem own_pd3 : parseMethodDescriptor "(J)J" = some ⟨[.long], some .long⟩ := by decide +kernel
theorem own_pd4 : parseMethodDescriptor "(DDDDDD)V" = some ⟨[.double, .double, .double, .double, .double, .double], none⟩ := by decide +kernel
theorem own_pd5 : parseMethodDescriptor "(DD)Z" = some ⟨[.double, .double], some .boolean⟩ := by decide +kernel
def own_v0_0 (q0_0 : Int64) : Int64 := (own_r1_0 q0_0.toInt32).toInt64
def own_v0_1 (q0_0 : Int64) : Int64 := (own_r1_0 (XT.ushrL q0_0 (32 : Int32)).toInt32).toInt64
def own_v0_2 (q0_1 : Int64) : Int64 := (own_r1_0 q0_1.toInt32).toInt64
def own_v0_3 (q0_1 : Int64) : Int64 := (own_r1_0 (XT.ushrL q0_1 (32 : Int32)).toInt32).toInt64
def own_v0_4 (q0_2 : Int64) : Int64 := (own_r1_0 q0_2.toInt32).toInt64
def own_v0_5 (q0_2 : Int64) : Int64 := (own_r1_0 (XT.ushrL q0_2 (32 : Int32)).toInt32).toInt64
def own_v0_6 (q0_3 : Int64) : Int64 := (own_r1_0 q0_3.toInt32).toInt64
def own_v0_7 (q0_3 : Int64) : Int64 := (own_r1_0 (XT.ushrL q0_3 (32 : Int32)).toInt32).toInt64
def own_v0_8 (q0_0 : Int64) (q0_1 : Int64) : Int64 := (((2 : Int64) * (own_v0_0 q0_0)) - (own_v0_2 q0_1))
def own_v0_9 (q0_0 : Int64) (q0_1 : Int64) : Int64 := (((2 : Int64) * (own_v0_1 q0_0)) - (own_v0_3 q0_1))
def own_v0_10 (q0_0 : Int64) (q0_1 : Int64) : Int64 := (((own_v0_0 q0_0) + (own_v0_2 q0_1)) >>> ((1 : Int32).toInt64 &&& 63))
def own_v0_11 (q0_0 : Int64) (q0_1 : Int64) : Int64 := (((own_v0_1 q0_0) + (own_v0_3 q0_1)) >>> ((1 : Int32).toInt64 &&& 63))
def own_j0_12 (q0_0 : Int64) (q0_1 : Int64) (p0_4 : Int32) : Int64 := if (p0_4 &&& (3 : Int32)) = (2 : Int32) then (own_v0_8 q0_0 q0_1) else (own_v0_10 q0_0 q0_1)
def own_j0_13 (q0_0 : Int64) (q0_1 : Int64) (p0_4 : Int32) : Int64 := if (p0_4 &&& (3 : Int32)) = (2 : Int32) then (own_v0_9 q0_0 q0_1) else (own_v0_11 q0_0 q0_1)
def own_j0_14 (q0_0 : Int64) (q0_1 : Int64) (q0_2 : Int64) (p0_4 : Int32) : Int64 := if (p0_4 &&& (3 : Int32)) = (1 : Int32) then (own_v0_4 q0_2) else (own_j0_12 q0_0 q0_1 p0_4)
def own_j0_15 (q0_0 : Int64) (q0_1 : Int64) (q0_2 : Int64) (p0_4 : Int32) : Int64 := if (p0_4 &&& (3 : Int32)) = (1 : Int32) then (own_v0_5 q0_2) else (own_j0_13 q0_0 q0_1 p0_4)
def own_j0_16 (q0_0 : Int64) (q0_1 : Int64) (q0_2 : Int64) (q0_3 : Int64) (p0_4 : Int32) : Int64 := if (p0_4 &&& (3 : Int32)) = (0 : Int32) then (own_v0_6 q0_3) else (own_j0_14 q0_0 q0_1 q0_2 p0_4)
def own_j0_17 (q0_0 : Int64) (q0_1 : Int64) (q0_2 : Int64) (q0_3 : Int64) (p0_4 : Int32) : Int64 := if (p0_4 &&& (3 : Int32)) = (0 : Int32) then (own_v0_7 q0_3) else (own_j0_15 q0_0 q0_1 q0_2 p0_4)
def own_v0_18 (q0_0 : Int64) (q0_1 : Int64) (q0_2 : Int64) : Int64 := (own_r2_0 (own_v0_0 q0_0) (own_v0_1 q0_0) (own_v0_2 q0_1) (own_v0_3 q0_1) (own_v0_4 q0_2) (own_v0_5 q0_2))
def own_v0_19 (q0_0 : Int64) (q0_1 : Int64) (q0_2 : Int64) (q0_3 : Int64) (p0_4 : Int32) : Int64 := (own_r2_0 (own_v0_0 q0_0) (own_v0_1 q0_0) (own_v0_2 q0_1) (own_v0_3 q0_1) (own_j0_16 q0_0 q0_1 q0_2 q0_3 p0_4) (own_j0_17 q0_0 q0_1 q0_2 q0_3 p0_4))
def own_v0_20 (q0_0 : Int64) (q0_1 : Int64) (q0_2 : Int64) (q0_3 : Int64) (p0_4 : Int32) : Int64 := (own_r2_0 (own_v0_2 q0_1) (own_v0_3 q0_1) (own_v0_4 q0_2) (own_v0_5 q0_2) (own_j0_16 q0_0 q0_1 q0_2 q0_3 p0_4) (own_j0_17 q0_0 q0_1 q0_2 q0_3 p0_4))
def own_v0_21 (q0_0 : Int64) (q0_1 : Int64) (q0_2 : Int64) (q0_3 : Int64) (p0_4 : Int32) : Int64 := (own_r2_0 (own_v0_4 q0_2) (own_v0_5 q0_2) (own_v0_0 q0_0) (own_v0_1 q0_0) (own_j0_16 q0_0 q0_1 q0_2 q0_3 p0_4) (own_j0_17 q0_0 q0_1 q0_2 q0_3 p0_4))
def own_j0_22 (q0_0 : Int64) (q0_1 : Int64) (q0_2 : Int64) (q0_3 : Int64) (p0_4 : Int32) : Int32 := if (own_j3_0 (own_v0_18 q0_0 q0_1 q0_2)) = (((own_j3_0 (own_v0_19 q0_0 q0_1 q0_2 q0_3 p0_4)) + (own_j3_0 (own_v0_20 q0_0 q0_1 q0_2 q0_3 p0_4))) + (own_j3_0 (own_v0_21 q0_0 q0_1 q0_2 q0_3 p0_4))) then (1 : Int32) else (0 : Int32)
theorem own_ef0 (m : MethodId) (q0_0 : Int64) (q0_1 : Int64) (q0_2 : Int64) (q0_3 : Int64) (p0_4 : Int32) : entryFrame m #[(.long q0_0), (.long q0_1), (.long q0_2), (.long q0_3), (.int p0_4)] maxLocals = mkF m 0 #[.val (.long q0_0), .second, .val (.long q0_1), .second, .val (.long q0_2), .second, .val (.long q0_3), .second, .val (.int p0_4), .unset, .unset, .unset, .unset, .unset, .unset, .unset, .unset, .unset, .unset, .unset, .unset, .unset, .unset, .unset, .unset, .unset, .unset, .unset, .unset, .unset, .unset, .unset, .unset, .unset, .unset, .unset] [] := by first | (simp [entryFrame, mkF, argsToLocals, Value.category, maxLocals]; done) | rfl
def own_Q0 (Z : State) (q0_0 : Int64) (q0_1 : Int64) (q0_2 : Int64) (q0_3 : Int64) (p0_4 : Int32) (h0 : Heap) (n0 : Nat) (v : Option Value) (h : Heap) (L : List Loc) : Prop := v = some (.int (1 : Int32)) ∧ Fr n0 L
set_option maxRecDepth 65536 in
set_option maxHeartbeats 40000000 in
theorem own_rm0 (l : Launch) (Z : State) (a0 : Array Value) (hw : ∀ d ∈ tables_1, d.before a0 Z = true) (ws : List Jvm.Cond) (q0_0 : Int64) (q0_1 : Int64) (q0_2 : Int64) (q0_3 : Int64) (p0_4 : Int32) (h0 : Heap) (n0 : Nat) (Z0 : n0 ≤ h0.size) (c305_c4_nn20 : NoNaN64 (FP.dsub (FP.l2d (own_v0_2 q0_1)) (FP.l2d (own_v0_0 q0_0)))) (c305_c4_nn29 : NoNaN64 (FP.dsub (FP.l2d (own_j0_17 q0_0 q0_1 q0_2 q0_3 p0_4)) (FP.l2d (own_v0_1 q0_0)))) (c305_c4_nn30 : NoNaN64 (FP.dmul (FP.dsub (FP.l2d (own_v0_2 q0_1)) (FP.l2d (own_v0_0 q0_0))) (FP.dsub (FP.l2d (own_j0_17 q0_0 q0_1 q0_2 q0_3 p0_4)) (FP.l2d (own_v0_1 q0_0))))) (c305_c4_nn44 : NoNaN64 (FP.dsub (FP.l2d (own_v0_3 q0_1)) (FP.l2d (own_v0_1 q0_0)))) (c305_c4_nn52 : NoNaN64 (FP.dsub (FP.l2d (own_j0_16 q0_0 q0_1 q0_2 q0_3 p0_4)) (FP.l2d (own_v0_0 q0_0)))) (c305_c4_nn53 : NoNaN64 (FP.dmul (FP.dsub (FP.l2d (own_v0_3 q0_1)) (FP.l2d (own_v0_1 q0_0))) (FP.dsub (FP.l2d (own_j0_16 q0_0 q0_1 q0_2 q0_3 p0_4)) (FP.l2d (own_v0_0 q0_0))))) (c305_c4_nn54 : NoNaN64 (FP.dsub (FP.dmul (FP.dsub (FP.l2d (own_v0_2 q0_1)) (FP.l2d (own_v0_0 q0_0))) (FP.dsub (FP.l2d (own_j0_17 q0_0 q0_1 q0_2 q0_3 p0_4)) (FP.l2d (own_v0_1 q0_0)))) (FP.dmul (FP.dsub (FP.l2d (own_v0_3 q0_1)) (FP.l2d (own_v0_1 q0_0))) (FP.dsub (FP.l2d (own_j0_16 q0_0 q0_1 q0_2 q0_3 p0_4)) (FP.l2d (own_v0_0 q0_0)))))) (c305_c13_nn20 : NoNaN64 (FP.dsub (FP.l2d (own_v0_4 q0_2)) (FP.l2d (own_v0_2 q0_1)))) (c305_c13_nn29 : NoNaN64 (FP.dsub (FP.l2d (own_j0_17 q0_0 q0_1 q0_2 q0_3 p0_4)) (FP.l2d (own_v0_3 q0_1)))) (c305_c13_nn30 : NoNaN64 (FP.dmul (FP.dsub (FP.l2d (own_v0_4 q0_2)) (FP.l2d (own_v0_2 q0_1))) (FP.dsub (FP.l2d (own_j0_17 q0_0 q0_1 q0_2 q0_3 p0_4)) (FP.l2d (own_v0_3 q0_1))))) (c305_c13_nn44 : NoNaN64 (FP.dsub (FP.l2d (own_v0_5 q0_2)) (FP.l2d (own_v0_3 q0_1)))) (c305_c13_nn52 : NoNaN64 (FP.dsub (FP.l2d (own_j0_16 q0_0 q0_1 q0_2 q0_3 p0_4)) (FP.l2d (own_v0_2 q0_1)))) (c305_c13_nn53 : NoNaN64 (FP.dmul (FP.dsub (FP.l2d (own_v0_5 q0_2)) (FP.l2d (own_v0_3 q0_1))) (FP.dsub (FP.l2d (own_j0_16 q0_0 q0_1 q0_2 q0_3 p0_4)) (FP.l2d (own_v0_2 q0_1))))) (c305_c13_nn54 : NoNaN64 (FP.dsub (FP.dmul (FP.dsub (FP.l2d (own_v0_4 q0_2)) (FP.l2d (own_v0_2 q0_1))) (FP.dsub (FP.l2d (own_j0_17 q0_0 q0_1 q0_2 q0_3 p0_4)) (FP.l2d (own_v0_3 q0_1)))) (FP.dmul (FP.dsub (FP.l2d (own_v0_5 q0_2)) (FP.l2d (own_v0_3 q0_1))) (FP.dsub (FP.l2d (own_j0_16 q0_0 q0_1 q0_2 q0_3 p0_4)) (FP.l2d (own_v0_2 q0_1)))))) (c305_c22_nn20 : NoNaN64 (FP.dsub (FP.l2d (own_v0_0 q0_0)) (FP.l2d (own_v0_4 q0_2)))) (c305_c22_nn29 : NoNaN64 (FP.dsub (FP.l2d (own_j0_17 q0_0 q0_1 q0_2 q0_3 p0_4)) (FP.l2d (own_v0_5 q0_2)))) (c305_c22_nn30 : NoNaN64 (FP.dmul (FP.dsub (FP.l2d (own_v0_0 q0_0)) (FP.l2d (own_v0_4 q0_2))) (FP.dsub (FP.l2d (own_j0_17 q0_0 q0_1 q0_2 q0_3 p0_4)) (FP.l2d (own_v0_5 q0_2))))) (c305_c22_nn44 : NoNaN64 (FP.dsub (FP.l2d (own_v0_1 q0_0)) (FP.l2d (own_v0_5 q0_2)))) (c305_c22_nn52 : NoNaN64 (FP.dsub (FP.l2d (own_j0_16 q0_0 q0_1 q0_2 q0_3 p0_4)) (FP.l2d (own_v0_4 q0_2)))) (c305_c22_nn53 : NoNaN64 (FP.dmul (FP.dsub (FP.l2d (own_v0_1 q0_0)) (FP.l2d (own_v0_5 q0_2))) (FP.dsub (FP.l2d (own_j0_16 q0_0 q0_1 q0_2 q0_3 p0_4)) (FP.l2d (own_v0_4 q0_2))))) (c305_c22_nn54 : NoNaN64 (FP.dsub (FP.dmul (FP.dsub (FP.l2d (own_v0_0 q0_0)) (FP.l2d (own_v0_4 q0_2))) (FP.dsub (FP.l2d (own_j0_17 q0_0 q0_1 q0_2 q0_3 p0_4)) (FP.l2d (own_v0_5 q0_2)))) (FP.dmul (FP.dsub (FP.l2d (own_v0_1 q0_0)) (FP.l2d (own_v0_5 q0_2))) (FP.dsub (FP.l2d (own_j0_16 q0_0 q0_1 q0_2 q0_3 p0_4)) (FP.l2d (own_v0_4 q0_2)))))) (hc310 : (own_r6_6 (FP.l2d (own_j0_16 q0_0 q0_1 q0_2 q0_3 p0_4)) (FP.l2d (own_j0_17 q0_0 q0_1 q0_2 q0_3 p0_4)) (FP.l2d (own_v0_0 q0_0)) (FP.l2d (own_v0_2 q0_1)) (FP.l2d (own_v0_4 q0_2)) (FP.l2d (own_v0_1 q0_0)) (FP.l2d (own_v0_3 q0_1)) (FP.l2d (own_v0_5 q0_2))) = (own_j0_22 q0_0 q0_1 q0_2 q0_3 p0_4)) :
    MetFree l x (head1 (Jvm.Cond.code x code maxLocals ret :: ws) room_1) (fun a U => a = #[(.long q0_0), (.long q0_1), (.long q0_2), (.long q0_3), (.int p0_4)] ∧ Z.Warmed39 U.vm ∧ U.heap = h0) (fun _ _ _ _ _ => True) (fun _ U o U' => ∃ v L, o = .returned v ∧ own_Q0 Z q0_0 q0_1 q0_2 q0_3 p0_4 h0 n0 v U'.heap L ∧ FrameEnd U o U' L room_1.cells room_1.slots) := by
  refine MetFree.of_bodySF (plainFor_of_name own_pn0) hisR ?_
  intro p e s m args below meth c s₁ Bd hml0 hP hK
  obtain ⟨rfl, hZ, hh⟩ := hP
  have hx := Bd.exec
  have hby := Bd.bytes
  have hml : c.maxLocals = 36 := hml0
  have hown : s.vm.findClass "com/example/wideberth/wideberth/maximin/TriangleContainsPinLaw" = some m.cls := findClass_of_methodNamed Bd.named
  have hnm := (name_of_methodNamed Bd.named Bd.method).1
  have X0 : Stand p l e room_1 s m #[(.long q0_0), (.long q0_1), (.long q0_2), (.long q0_3), (.int p0_4)] below meth c s₁ [] 0 0 := Stand.of_body Bd
  have e0 : s₁.heap = h0 := by rw [← hh, Bd.state]; rfl
  have N0 := Fr.nil n0
  have Zr : h0.size ≤ h0.size := Nat.le_refl _
  have pre0 : ∀ t, Steps p.tables e below (s₁.setTop (mkF m 0 #[.val (.long q0_0), .second, .val (.long q0_1), .second, .val (.long q0_2), .second, .val (.long q0_3), .second, .val (.int p0_4), .unset, .unset, .unset, .unset, .unset, .unset, .unset, .unset, .unset, .unset, .unset, .unset, .unset, .unset, .unset, .unset, .unset, .unset, .unset, .unset, .unset, .unset, .unset, .unset, .unset, .unset, .unset] [])) t → Steps p.tables e below (s₁.setTop (entryFrame m #[(.long q0_0), (.long q0_1), (.long q0_2), (.long q0_3), (.int p0_4)] maxLocals)) t := fun t k => castTop (own_ef0 m q0_0 q0_1 q0_2 q0_3 p0_4) k
  obtain ⟨_, _, ⟨Tk0_1, Lk0_1, kk0_1, nk0_1⟩, -, Xk0_1, ⟨Lck0_1, hQk0_1, lk0_1, yk0_1, zk0_1⟩, stk0_1⟩ := Jvm.LawKit.callS X0 hx (y := (⟨"com/example/wideberth/wideberth/maximin/TriangleContainsPinLaw", "c24", "(I)I"⟩ : MethodName)) hown (mvT hZ (hw _ (List.mem_of_getElem? (i := 0) rfl))) (mvT hZ (hw _ (List.mem_of_getElem? (i := 1) rfl))) (mvT hZ (hw _ (List.mem_of_getElem? (i := 2) rfl))) (mvT hZ (hw _ (List.mem_of_getElem? (i := 3) rfl))) (by decide) (backOf (W := 0) (own_rm1 l Z a0 hw [] q0_0.toInt32 h0 n0 Z0) hZ (hw _ (List.mem_of_getElem? (i := 3) rfl)) (hw _ (List.mem_of_getElem? (i := 2) rfl)) (by decide) (by decide)) (g := (mkF m 2 #[.val (.long q0_0), .second, .val (.long q0_1), .second, .val (.long q0_2), .second, .val (.long q0_3), .second, .val (.int p0_4), .unset, .unset, .unset, .unset, .unset, .unset, .unset, .unset, .unset, .unset, .unset, .unset, .unset, .unset, .unset, .unset, .unset, .unset, .unset, .unset, .unset, .unset, .unset, .unset, .unset, .unset, .unset] [(.int q0_0.toInt32)])) rfl (by rw [hml]; rfl) (argsL := [(.int q0_0.toInt32)]) (rest := []) (lenOf own_pd1 rfl) rfl (by show 2 * 0 + _ ≤ _; exact Nat.le_of_eq rfl) (hb hby at_2) (fun _ _ => ⟨rfl, e0, (by decide : 0 + 0 ≤ _), (by decide : 0 + 0 ≤ _)⟩)
  dsimp only [Pt.U, Pt.locs, Pt.cells, Pt.slots] at Xk0_1 lk0_1 yk0_1 zk0_1 stk0_1 hQk0_1
  subst lk0_1 yk0_1 zk0_1
  obtain ⟨rfl, Nk0_1q, ek0_1⟩ := hQk0_1
  have Nk0_1 := Fr.app N0 Nk0_1q
  obtain ⟨_, _, ⟨Tk0_2, Lk0_2, kk0_2, nk0_2⟩, -, Xk0_2, ⟨Lck0_2, hQk0_2, lk0_2, yk0_2, zk0_2⟩, stk0_2⟩ := Jvm.LawKit.callS Xk0_1 hx (y := (⟨"com/example/wideberth/wideberth/maximin/TriangleContainsPinLaw", "c24", "(I)I"⟩ : MethodName)) hown (mvT hZ (hw _ (List.mem_of_getElem? (i := 0) rfl))) (mvT hZ (hw _ (List.mem_of_getElem? (i := 1) rfl))) (mvT hZ (hw _ (List.mem_of_getElem? (i := 2) rfl))) (mvT hZ (hw _ (List.mem_of_getElem? (i := 3) rfl))) (by decide) (backOf (W := 0) (own_rm1 l Z a0 hw [] (XT.ushrL q0_0 (32 : Int32)).toInt32 h0 n0 Z0) hZ (hw _ (List.mem_of_getElem? (i := 3) rfl)) (hw _ (List.mem_of_getElem? (i := 2) rfl)) (by decide) (by decide)) (g := (mkF m 13 #[.val (.long q0_0), .second, .val (.long q0_1), .second, .val (.long q0_2), .second, .val (.long q0_3), .second, .val (.int p0_4), .val (.long (own_v0_0 q0_0)), .second, .unset, .unset, .unset, .unset, .unset, .unset, .unset, .unset, .unset, .unset, .unset, .unset, .unset, .unset, .unset, .unset, .unset, .unset, .unset, .unset, .unset, .unset, .unset, .unset, .unset] [(.int (XT.ushrL q0_0 (32 : Int32)).toInt32)])) rfl (by rw [hml]; rfl) (argsL := [(.int (XT.ushrL q0_0 (32 : Int32)).toInt32)]) (rest := []) (lenOf own_pd1 rfl) rfl (by show 2 * 0 + _ ≤ _; exact Nat.le_of_eq rfl) (hb hby at_13) (fun _ _ => ⟨rfl, ek0_1, (by decide : 0 + 0 ≤ _), (by decide : 0 + 0 ≤ _)⟩)
  dsimp only [Pt.U, Pt.locs, Pt.cells, Pt.slots] at Xk0_2 lk0_2 yk0_2 zk0_2 stk0_2 hQk0_2
  subst lk0_2 yk0_2 zk0_2
  obtain ⟨rfl, Nk0_2q, ek0_2⟩ := hQk0_2
  have Nk0_2 := Fr.app Nk0_1 Nk0_2q
  obtain ⟨_, _, ⟨Tk0_3, Lk0_3, kk0_3, nk0_3⟩, -, Xk0_3, ⟨Lck0_3, hQk0_3, lk0_3, yk0_3, zk0_3⟩, stk0_3⟩ := Jvm.LawKit.callS Xk0_2 hx (y := (⟨"com/example/wideberth/wideberth/maximin/TriangleContainsPinLaw", "c24", "(I)I"⟩ : MethodName)) hown (mvT hZ (hw _ (List.mem_of_getElem? (i := 0) rfl))) (mvT hZ (hw _ (List.mem_of_getElem? (i := 1) rfl))) (mvT hZ (hw _ (List.mem_of_getElem? (i := 2) rfl))) (mvT hZ (hw _ (List.mem_of_getElem? (i := 3) rfl))) (by decide) (backOf (W := 0) (own_rm1 l Z a0 hw [] q0_1.toInt32 h0 n0 Z0) hZ (hw _ (List.mem_of_getElem? (i := 3) rfl)) (hw _ (List.mem_of_getElem? (i := 2) rfl)) (by decide) (by decide)) (g := (mkF m 21 #[.val (.long q0_0), .second, .val (.long q0_1), .second, .val (.long q0_2), .second, .val (.long q0_3), .second, .val (.int p0_4), .val (.long (own_v0_0 q0_0)), .second, .val (.long (own_v0_1 q0_0)), .second, .unset, .unset, .unset, .unset, .unset, .unset, .unset, .unset, .unset, .unset, .unset, .unset, .unset, .unset, .unset, .unset, .unset, .unset, .unset, .unset, .unset, .unset, .unset] [(.int q0_1.toInt32)])) rfl (by rw [hml]; rfl) (argsL := [(.int q0_1.toInt32)]) (rest := []) (lenOf own_pd1 rfl) rfl (by show 2 * 0 + _ ≤ _; exact Nat.le_of_eq rfl) (hb hby at_21) (fun _ _ => ⟨rfl, ek0_2, (by decide : 0 + 0 ≤ _), (by decide : 0 + 0 ≤ _)⟩)
  dsimp only [Pt.U, Pt.locs, Pt.cells, Pt.slots] at Xk0_3 lk0_3 yk0_3 zk0_3 stk0_3 hQk0_3
  subst lk0_3 yk0_3 zk0_3
  obtain ⟨rfl, Nk0_3q, ek0_3⟩ := hQk0_3
  have Nk0_3 := Fr.app Nk0_2 Nk0_3q
  obtain ⟨_, _, ⟨Tk0_4, Lk0_4, kk0_4, nk0_4⟩, -, Xk0_4, ⟨Lck0_4, hQk0_4, lk0_4, yk0_4, zk0_4⟩, stk0_4⟩ := Jvm.LawKit.callS Xk0_3 hx (y := (⟨"com/example/wideberth/wideberth/maximin/TriangleContainsPinLaw", "c24", "(I)I"⟩ : MethodName)) hown (mvT hZ (hw _ (List.mem_of_getElem? (i := 0) rfl))) (mvT hZ (hw _ (List.mem_of_getElem? (i := 1) rfl))) (mvT hZ (hw _ (List.mem_of_getElem? (i := 2) rfl))) (mvT hZ (hw _ (List.mem_of_getElem? (i := 3) rfl))) (by decide) (backOf (W := 0) (own_rm1 l Z a0 hw [] (XT.ushrL q0_1 (32 : Int32)).toInt32 h0 n0 Z0) hZ (hw _ (List.mem_of_getElem? (i := 3) rfl)) (hw _ (List.mem_of_getElem? (i := 2) rfl)) (by decide) (by decide)) (g := (mkF m 32 #[.val (.long q0_0), .second, .val (.long q0_1), .second, .val (.long q0_2), .second, .val (.long q0_3), .second, .val (.int p0_4), .val (.long (own_v0_0 q0_0)), .second, .val (.long (own_v0_1 q0_0)), .second, .val (.long (own_v0_2 q0_1)), .second, .unset, .unset, .unset, .unset, .unset, .unset, .unset, .unset, .unset, .unset, .unset, .unset, .unset, .unset, .unset, .unset, .unset, .unset, .unset, .unset, .unset] [(.int (XT.ushrL q0_1 (32 : Int32)).toInt32)])) rfl (by rw [hml]; rfl) (argsL := [(.int (XT.ushrL q0_1 (32 : Int32)).toInt32)]) (rest := []) (lenOf own_pd1 rfl) rfl (by show 2 * 0 + _ ≤ _; exact Nat.le_of_eq rfl) (hb hby at_32) (fun _ _ => ⟨rfl, ek0_3, (by decide : 0 + 0 ≤ _), (by decide : 0 + 0 ≤ _)⟩)
  dsimp only [Pt.U, Pt.locs, Pt.cells, Pt.slots] at Xk0_4 lk0_4 yk0_4 zk0_4 stk0_4 hQk0_4
  subst lk0_4 yk0_4 zk0_4
  obtain ⟨rfl, Nk0_4q, ek0_4⟩ := hQk0_4
  have Nk0_4 := Fr.app Nk0_3 Nk0_4q
  obtain ⟨_, _, ⟨Tk0_5, Lk0_5, kk0_5, nk0_5⟩, -, Xk0_5, ⟨Lck0_5, hQk0_5, lk0_5, yk0_5, zk0_5⟩, stk0_5⟩ := Jvm.LawKit.callS Xk0_4 hx (y := (⟨"com/example/wideberth/wideberth/maximin/TriangleContainsPinLaw", "c24", "(I)I"⟩ : MethodName)) hown (mvT hZ (hw _ (List.mem_of_getElem? (i := 0) rfl))) (mvT hZ (hw _ (List.mem_of_getElem? (i := 1) rfl))) (mvT hZ (hw _ (List.mem_of_getElem? (i := 2) rfl))) (mvT hZ (hw _ (List.mem_of_getElem? (i := 3) rfl))) (by decide) (backOf (W := 0) (own_rm1 l Z a0 hw [] q0_2.toInt32 h0 n0 Z0) hZ (hw _ (List.mem_of_getElem? (i := 3) rfl)) (hw _ (List.mem_of_getElem? (i := 2) rfl)) (by decide) (by decide)) (g := (mkF m 41 #[.val (.long q0_0), .second, .val (.long q0_1), .second, .val (.long q0_2), .second, .val (.long q0_3), .second, .val (.int p0_4), .val (.long (own_v0_0 q0_0)), .second, .val (.long (own_v0_1 q0_0)), .second, .val (.long (own_v0_2 q0_1)), .second, .val (.long (own_v0_3 q0_1)), .second, .unset, .unset, .unset, .unset, .unset, .unset, .unset, .unset, .unset, .unset, .unset, .unset, .unset, .unset, .unset, .unset, .unset, .unset, .unset] [(.int q0_2.toInt32)])) rfl (by rw [hml]; rfl) (argsL := [(.int q0_2.toInt32)]) (rest := []) (lenOf own_pd1 rfl) rfl (by show 2 * 0 + _ ≤ _; exact Nat.le_of_eq rfl) (hb hby at_41) (fun _ _ => ⟨rfl, ek0_4, (by decide : 0 + 0 ≤ _), (by decide : 0 + 0 ≤ _)⟩)
  dsimp only [Pt.U, Pt.locs, Pt.cells, Pt.slots] at Xk0_5 lk0_5 yk0_5 zk0_5 stk0_5 hQk0_5
  subst lk0_5 yk0_5 zk0_5
  obtain ⟨rfl, Nk0_5q, ek0_5⟩ := hQk0_5
  have Nk0_5 := Fr.app Nk0_4 Nk0_5q
  obtain ⟨_, _, ⟨Tk0_6, Lk0_6, kk0_6, nk0_6⟩, -, Xk0_6, ⟨Lck0_6, hQk0_6, lk0_6, yk0_6, zk0_6⟩, stk0_6⟩ := Jvm.LawKit.callS Xk0_5 hx (y := (⟨"com/example/wideberth/wideberth/maximin/TriangleContainsPinLaw", "c24", "(I)I"⟩ : MethodName)) hown (mvT hZ (hw _ (List.mem_of_getElem? (i := 0) rfl))) (mvT hZ (hw _ (List.mem_of_getElem? (i := 1) rfl))) (mvT hZ (hw _ (List.mem_of_getElem? (i := 2) rfl))) (mvT hZ (hw _ (List.mem_of_getElem? (i := 3) rfl))) (by decide) (backOf (W := 0) (own_rm1 l Z a0 hw [] (XT.ushrL q0_2 (32 : Int32)).toInt32 h0 n0 Z0) hZ (hw _ (List.mem_of_getElem? (i := 3) rfl)) (hw _ (List.mem_of_getElem? (i := 2) rfl)) (by decide) (by decide)) (g := (mkF m 53 #[.val (.long q0_0), .second, .val (.long q0_1), .second, .val (.long q0_2), .second, .val (.long q0_3), .second, .val (.int p0_4), .val (.long (own_v0_0 q0_0)), .second, .val (.long (own_v0_1 q0_0)), .second, .val (.long (own_v0_2 q0_1)), .second, .val (.long (own_v0_3 q0_1)), .second, .val (.long (own_v0_4 q0_2)), .second, .unset, .unset, .unset, .unset, .unset, .unset, .unset, .unset, .unset, .unset, .unset, .unset, .unset, .unset, .unset, .unset, .unset] [(.int (XT.ushrL q0_2 (32 : Int32)).toInt32)])) rfl (by rw [hml]; rfl) (argsL := [(.int (XT.ushrL q0_2 (32 : Int32)).toInt32)]) (rest := []) (lenOf own_pd1 rfl) rfl (by show 2 * 0 + _ ≤ _; exact Nat.le_of_eq rfl) (hb hby at_53) (fun _ _ => ⟨rfl, ek0_5, (by decide : 0 + 0 ≤ _), (by decide : 0 + 0 ≤ _)⟩)
  dsimp only [Pt.U, Pt.locs, Pt.cells, Pt.slots] at Xk0_6 lk0_6 yk0_6 zk0_6 stk0_6 hQk0_6
  subst lk0_6 yk0_6 zk0_6
  obtain ⟨rfl, Nk0_6q, ek0_6⟩ := hQk0_6
  have Nk0_6 := Fr.app Nk0_5 Nk0_6q
  obtain ⟨Tj0_7, lj0_7, Xj0_7, Nj0_7, ej0_7, stj0_7⟩ : ∃ (T' : State) (l' : List Loc), Stand p l e room_1 s m #[(.long q0_0), (.long q0_1), (.long q0_2), (.long q0_3), (.int p0_4)] below meth c T' l' 0 0 ∧ Fr n0 l' ∧ T'.heap = h0 ∧ ∀ target, Steps p.tables e below (T'.setTop (mkF m 160 #[.val (.long q0_0), .second, .val (.long q0_1), .second, .val (.long q0_2), .second, .val (.long q0_3), .second, .val (.int p0_4), .val (.long (own_v0_0 q0_0)), .second, .val (.long (own_v0_1 q0_0)), .second, .val (.long (own_v0_2 q0_1)), .second, .val (.long (own_v0_3 q0_1)), .second, .val (.long (own_v0_4 q0_2)), .second, .val (.long (own_v0_5 q0_2)), .second, .val (.int (p0_4 &&& (3 : Int32))), .val (.long (own_j0_16 q0_0 q0_1 q0_2 q0_3 p0_4)), .second, .val (.long (own_j0_17 q0_0 q0_1 q0_2 q0_3 p0_4)), .second, .unset, .unset, .unset, .unset, .unset, .unset, .unset, .unset, .unset, .unset] [])) target → Steps p.tables e below (Tk0_6.setTop (mkF m 67 #[.val (.long q0_0), .second, .val (.long q0_1), .second, .val (.long q0_2), .second, .val (.long q0_3), .second, .val (.int p0_4), .val (.long (own_v0_0 q0_0)), .second, .val (.long (own_v0_1 q0_0)), .second, .val (.long (own_v0_2 q0_1)), .second, .val (.long (own_v0_3 q0_1)), .second, .val (.long (own_v0_4 q0_2)), .second, .val (.long (own_v0_5 q0_2)), .second, .val (.int (p0_4 &&& (3 : Int32))), .unset, .unset, .unset, .unset, .unset, .unset, .unset, .unset, .unset, .unset, .unset, .unset, .unset, .unset] [(.int (p0_4 &&& (3 : Int32)))])) target := by
    by_cases hj0_7 : (p0_4 &&& (3 : Int32)) = (0 : Int32)
    · obtain ⟨_, _, ⟨Tk0_8, Lk0_8, kk0_8, nk0_8⟩, -, Xk0_8, ⟨Lck0_8, hQk0_8, lk0_8, yk0_8, zk0_8⟩, stk0_8⟩ := Jvm.LawKit.callS Xk0_6 hx (y := (⟨"com/example/wideberth/wideberth/maximin/TriangleContainsPinLaw", "c24", "(I)I"⟩ : MethodName)) hown (mvT hZ (hw _ (List.mem_of_getElem? (i := 0) rfl))) (mvT hZ (hw _ (List.mem_of_getElem? (i := 1) rfl))) (mvT hZ (hw _ (List.mem_of_getElem? (i := 2) rfl))) (mvT hZ (hw _ (List.mem_of_getElem? (i := 3) rfl))) (by decide) (backOf (W := 0) (own_rm1 l Z a0 hw [] q0_3.toInt32 h0 n0 Z0) hZ (hw _ (List.mem_of_getElem? (i := 3) rfl)) (hw _ (List.mem_of_getElem? (i := 2) rfl)) (by decide) (by decide)) (g := (mkF m 73 #[.val (.long q0_0), .second, .val (.long q0_1), .second, .val (.long q0_2), .second, .val (.long q0_3), .second, .val (.int p0_4), .val (.long (own_v0_0 q0_0)), .second, .val (.long (own_v0_1 q0_0)), .second, .val (.long (own_v0_2 q0_1)), .second, .val (.long (own_v0_3 q0_1)), .second, .val (.long (own_v0_4 q0_2)), .second, .val (.long (own_v0_5 q0_2)), .second, .val (.int (p0_4 &&& (3 : Int32))), .unset, .unset, .unset, .unset, .unset, .unset, .unset, .unset, .unset, .unset, .unset, .unset, .unset, .unset] [(.int q0_3.toInt32)])) rfl (by rw [hml]; rfl) (argsL := [(.int q0_3.toInt32)]) (rest := []) (lenOf own_pd1 rfl) rfl (by show 2 * 0 + _ ≤ _; exact Nat.le_of_eq rfl) (hb hby at_73) (fun _ _ => ⟨rfl, ek0_6, (by decide : 0 + 0 ≤ _), (by decide : 0 + 0 ≤ _)⟩)
      dsimp only [Pt.U, Pt.locs, Pt.cells, Pt.slots] at Xk0_8 lk0_8 yk0_8 zk0_8 stk0_8 hQk0_8
      subst lk0_8 yk0_8 zk0_8
      obtain ⟨rfl, Nk0_8q, ek0_8⟩ := hQk0_8
      have Nk0_8 := Fr.app Nk0_6 Nk0_8q
      obtain ⟨_, _, ⟨Tk0_9, Lk0_9, kk0_9, nk0_9⟩, -, Xk0_9, ⟨Lck0_9, hQk0_9, lk0_9, yk0_9, zk0_9⟩, stk0_9⟩ := Jvm.LawKit.callS Xk0_8 hx (y := (⟨"com/example/wideberth/wideberth/maximin/TriangleContainsPinLaw", "c24", "(I)I"⟩ : MethodName)) hown (mvT hZ (hw _ (List.mem_of_getElem? (i := 0) rfl))) (mvT hZ (hw _ (List.mem_of_getElem? (i := 1) rfl))) (mvT hZ (hw _ (List.mem_of_getElem? (i := 2) rfl))) (mvT hZ (hw _ (List.mem_of_getElem? (i := 3) rfl))) (by decide) (backOf (W := 0) (own_rm1 l Z a0 hw [] (XT.ushrL q0_3 (32 : Int32)).toInt32 h0 n0 Z0) hZ (hw _ (List.mem_of_getElem? (i := 3) rfl)) (hw _ (List.mem_of_getElem? (i := 2) rfl)) (by decide) (by decide)) (g := (mkF m 85 #[.val (.long q0_0), .second, .val (.long q0_1), .second, .val (.long q0_2), .second, .val (.long q0_3), .second, .val (.int p0_4), .val (.long (own_v0_0 q0_0)), .second, .val (.long (own_v0_1 q0_0)), .second, .val (.long (own_v0_2 q0_1)), .second, .val (.long (own_v0_3 q0_1)), .second, .val (.long (own_v0_4 q0_2)), .second, .val (.long (own_v0_5 q0_2)), .second, .val (.int (p0_4 &&& (3 : Int32))), .val (.long (own_v0_6 q0_3)), .second, .unset, .unset, .unset, .unset, .unset, .unset, .unset, .unset, .unset, .unset, .unset, .unset] [(.int (XT.ushrL q0_3 (32 : Int32)).toInt32)])) rfl (by rw [hml]; rfl) (argsL := [(.int (XT.ushrL q0_3 (32 : Int32)).toInt32)]) (rest := []) (lenOf own_pd1 rfl) rfl (by show 2 * 0 + _ ≤ _; exact Nat.le_of_eq rfl) (hb hby at_85) (fun _ _ => ⟨rfl, ek0_8, (by decide : 0 + 0 ≤ _), (by decide : 0 + 0 ≤ _)⟩)
      dsimp only [Pt.U, Pt.locs, Pt.cells, Pt.slots] at Xk0_9 lk0_9 yk0_9 zk0_9 stk0_9 hQk0_9
      subst lk0_9 yk0_9 zk0_9
      obtain ⟨rfl, Nk0_9q, ek0_9⟩ := hQk0_9
      have Nk0_9 := Fr.app Nk0_8 Nk0_9q
      refine ⟨_, _, Xk0_9, Nk0_9, ek0_9, fun target kt => ?_⟩
      rw [(show (own_j0_16 q0_0 q0_1 q0_2 q0_3 p0_4) = (own_v0_6 q0_3) from if_pos hj0_7), (show (own_j0_17 q0_0 q0_1 q0_2 q0_3 p0_4) = (own_v0_7 q0_3) from if_pos hj0_7)] at kt
      show Steps p.tables e below (Tk0_6.setTop (mkF m 67 #[.val (.long q0_0), .second, .val (.long q0_1), .second, .val (.long q0_2), .second, .val (.long q0_3), .second, .val (.int p0_4), .val (.long (own_v0_0 q0_0)), .second, .val (.long (own_v0_1 q0_0)), .second, .val (.long (own_v0_2 q0_1)), .second, .val (.long (own_v0_3 q0_1)), .second, .val (.long (own_v0_4 q0_2)), .second, .val (.long (own_v0_5 q0_2)), .second, .val (.int (p0_4 &&& (3 : Int32))), .unset, .unset, .unset, .unset, .unset, .unset, .unset, .unset, .unset, .unset, .unset, .unset, .unset, .unset] [(.int (p0_4 &&& (3 : Int32)))])) _
      refine XS.ifNo Xk0_6.here hx rfl (hb hby at_67) rfl (XT.i0_ne_f hj0_7) ?_
      show Steps p.tables e below (Tk0_6.setTop (mkF m 70 #[.val (.long q0_0), .second, .val (.long q0_1), .second, .val (.long q0_2), .second, .val (.long q0_3), .second, .val (.int p0_4), .val (.long (own_v0_0 q0_0)), .second, .val (.long (own_v0_1 q0_0)), .second, .val (.long (own_v0_2 q0_1)), .second, .val (.long (own_v0_3 q0_1)), .second, .val (.long (own_v0_4 q0_2)), .second, .val (.long (own_v0_5 q0_2)), .second, .val (.int (p0_4 &&& (3 : Int32))), .unset, .unset, .unset, .unset, .unset, .unset, .unset, .unset, .unset, .unset, .unset, .unset, .unset, .unset] [])) _
      refine XT.lload Xk0_6.here hx rfl (hb hby at_70) rfl ?_
      show Steps p.tables e below (Tk0_6.setTop (mkF m 72 #[.val (.long q0_0), .second, .val (.long q0_1), .second, .val (.long q0_2), .second, .val (.long q0_3), .second, .val (.int p0_4), .val (.long (own_v0_0 q0_0)), .second, .val (.long (own_v0_1 q0_0)), .second, .val (.long (own_v0_2 q0_1)), .second, .val (.long (own_v0_3 q0_1)), .second, .val (.long (own_v0_4 q0_2)), .second, .val (.long (own_v0_5 q0_2)), .second, .val (.int (p0_4 &&& (3 : Int32))), .unset, .unset, .unset, .unset, .unset, .unset, .unset, .unset, .unset, .unset, .unset, .unset, .unset, .unset] [(.long q0_3)])) _
      refine XT.l2i Xk0_6.here hx rfl (hb hby at_72) rfl ?_
      show Steps p.tables e below (Tk0_6.setTop (mkF m 73 #[.val (.long q0_0), .second, .val (.long q0_1), .second, .val (.long q0_2), .second, .val (.long q0_3), .second, .val (.int p0_4), .val (.long (own_v0_0 q0_0)), .second, .val (.long (own_v0_1 q0_0)), .second, .val (.long (own_v0_2 q0_1)), .second, .val (.long (own_v0_3 q0_1)), .second, .val (.long (own_v0_4 q0_2)), .second, .val (.long (own_v0_5 q0_2)), .second, .val (.int (p0_4 &&& (3 : Int32))), .unset, .unset, .unset, .unset, .unset, .unset, .unset, .unset, .unset, .unset, .unset, .unset, .unset, .unset] [(.int q0_3.toInt32)])) _
      refine stk0_8 _ ?_
      show Steps p.tables e below (Tk0_8.setTop (mkF m 76 #[.val (.long q0_0), .second, .val (.long q0_1), .second, .val (.long q0_2), .second, .val (.long q0_3), .second, .val (.int p0_4), .val (.long (own_v0_0 q0_0)), .second, .val (.long (own_v0_1 q0_0)), .second, .val (.long (own_v0_2 q0_1)), .second, .val (.long (own_v0_3 q0_1)), .second, .val (.long (own_v0_4 q0_2)), .second, .val (.long (own_v0_5 q0_2)), .second, .val (.int (p0_4 &&& (3 : Int32))), .unset, .unset, .unset, .unset, .unset, .unset, .unset, .unset, .unset, .unset, .unset, .unset, .unset, .unset] [(.int (own_r1_0 q0_3.toInt32))])) _
      refine XT.i2l Xk0_8.here hx rfl (hb hby at_76) rfl ?_
      show Steps p.tables e below (Tk0_8.setTop (mkF m 77 #[.val (.long q0_0), .second, .val (.long q0_1), .second, .val (.long q0_2), .second, .val (.long q0_3), .second, .val (.int p0_4), .val (.long (own_v0_0 q0_0)), .second, .val (.long (own_v0_1 q0_0)), .second, .val (.long (own_v0_2 q0_1)), .second, .val (.long (own_v0_3 q0_1)), .second, .val (.long (own_v0_4 q0_2)), .second, .val (.long (own_v0_5 q0_2)), .second, .val (.int (p0_4 &&& (3 : Int32))), .unset, .unset, .unset, .unset, .unset, .unset, .unset, .unset, .unset, .unset, .unset, .unset, .unset, .unset] [(.long (own_r1_0 q0_3.toInt32).toInt64)])) _
      refine XT.lstore Xk0_8.here hx rfl (hb hby at_77) rfl (l' := #[.val (.long q0_0), .second, .val (.long q0_1), .second, .val (.long q0_2), .second, .val (.long q0_3), .second, .val (.int p0_4), .val (.long (own_v0_0 q0_0)), .second, .val (.long (own_v0_1 q0_0)), .second, .val (.long (own_v0_2 q0_1)), .second, .val (.long (own_v0_3 q0_1)), .second, .val (.long (own_v0_4 q0_2)), .second, .val (.long (own_v0_5 q0_2)), .second, .val (.int (p0_4 &&& (3 : Int32))), .val (.long (own_v0_6 q0_3)), .second, .unset, .unset, .unset, .unset, .unset, .unset, .unset, .unset, .unset, .unset, .unset, .unset]) rfl ?_
      show Steps p.tables e below (Tk0_8.setTop (mkF m 79 #[.val (.long q0_0), .second, .val (.long q0_1), .second, .val (.long q0_2), .second, .val (.long q0_3), .second, .val (.int p0_4), .val (.long (own_v0_0 q0_0)), .second, .val (.long (own_v0_1 q0_0)), .second, .val (.long (own_v0_2 q0_1)), .second, .val (.long (own_v0_3 q0_1)), .second, .val (.long (own_v0_4 q0_2)), .second, .val (.long (own_v0_5 q0_2)), .second, .val (.int (p0_4 &&& (3 : Int32))), .val (.long (own_v0_6 q0_3)), .second, .unset, .unset, .unset, .unset, .unset, .unset, .unset, .unset, .unset, .unset, .unset, .unset] [])) _
      refine XT.lload Xk0_8.here hx rfl (hb hby at_79) rfl ?_
      show Steps p.tables e below (Tk0_8.setTop (mkF m 81 #[.val (.long q0_0), .second, .val (.long q0_1), .second, .val (.long q0_2), .second, .val (.long q0_3), .second, .val (.int p0_4), .val (.long (own_v0_0 q0_0)), .second, .val (.long (own_v0_1 q0_0)), .second, .val (.long (own_v0_2 q0_1)), .second, .val (.long (own_v0_3 q0_1)), .second, .val (.long (own_v0_4 q0_2)), .second, .val (.long (own_v0_5 q0_2)), .second, .val (.int (p0_4 &&& (3 : Int32))), .val (.long (own_v0_6 q0_3)), .second, .unset, .unset, .unset, .unset, .unset, .unset, .unset, .unset, .unset, .unset, .unset, .unset] [(.long q0_3)])) _
      refine XS.bipush Xk0_8.here hx rfl (hb hby at_81) ?_
      show Steps p.tables e below (Tk0_8.setTop (mkF m 83 #[.val (.long q0_0), .second, .val (.long q0_1), .second, .val (.long q0_2), .second, .val (.long q0_3), .second, .val (.int p0_4), .val (.long (own_v0_0 q0_0)), .second, .val (.long (own_v0_1 q0_0)), .second, .val (.long (own_v0_2 q0_1)), .second, .val (.long (own_v0_3 q0_1)), .second, .val (.long (own_v0_4 q0_2)), .second, .val (.long (own_v0_5 q0_2)), .second, .val (.int (p0_4 &&& (3 : Int32))), .val (.long (own_v0_6 q0_3)), .second, .unset, .unset, .unset, .unset, .unset, .unset, .unset, .unset, .unset, .unset, .unset, .unset] [(.int (32 : Int32)), (.long q0_3)])) _
      refine XT.lushr Xk0_8.here hx rfl (hb hby at_83) rfl ?_
      show Steps p.tables e below (Tk0_8.setTop (mkF m 84 #[.val (.long q0_0), .second, .val (.long q0_1), .second, .val (.long q0_2), .second, .val (.long q0_3), .second, .val (.int p0_4), .val (.long (own_v0_0 q0_0)), .second, .val (.long (own_v0_1 q0_0)), .second, .val (.long (own_v0_2 q0_1)), .second, .val (.long (own_v0_3 q0_1)), .second, .val (.long (own_v0_4 q0_2)), .second, .val (.long (own_v0_5 q0_2)), .second, .val (.int (p0_4 &&& (3 : Int32))), .val (.long (own_v0_6 q0_3)), .second, .unset, .unset, .unset, .unset, .unset, .unset, .unset, .unset, .unset, .unset, .unset, .unset] [(.long (XT.ushrL q0_3 (32 : Int32)))])) _
      refine XT.l2i Xk0_8.here hx rfl (hb hby at_84) rfl ?_
      show Steps p.tables e below (Tk0_8.setTop (mkF m 85 #[.val (.long q0_0), .second, .val (.long q0_1), .second, .val (.long q0_2), .second, .val (.long q0_3), .second, .val (.int p0_4), .val (.long (own_v0_0 q0_0)), .second, .val (.long (own_v0_1 q0_0)), .second, .val (.long (own_v0_2 q0_1)), .second, .val (.long (own_v0_3 q0_1)), .second, .val (.long (own_v0_4 q0_2)), .second, .val (.long (own_v0_5 q0_2)), .second, .val (.int (p0_4 &&& (3 : Int32))), .val (.long (own_v0_6 q0_3)), .second, .unset, .unset, .unset, .unset, .unset, .unset, .unset, .unset, .unset, .unset, .unset, .unset] [(.int (XT.ushrL q0_3 (32 : Int32)).toInt32)])) _
      refine stk0_9 _ ?_
      show Steps p.tables e below (Tk0_9.setTop (mkF m 88 #[.val (.long q0_0), .second, .val (.long q0_1), .second, .val (.long q0_2), .second, .val (.long q0_3), .second, .val (.int p0_4), .val (.long (own_v0_0 q0_0)), .second, .val (.long (own_v0_1 q0_0)), .second, .val (.long (own_v0_2 q0_1)), .second, .val (.long (own_v0_3 q0_1)), .second, .val (.long (own_v0_4 q0_2)), .second, .val (.long (own_v0_5 q0_2)), .second, .val (.int (p0_4 &&& (3 : Int32))), .val (.long (own_v0_6 q0_3)), .second, .unset, .unset, .unset, .unset, .unset, .unset, .unset, .unset, .unset, .unset, .unset, .unset] [(.int (own_r1_0 (XT.ushrL q0_3 (32 : Int32)).toInt32))])) _
      refine XT.i2l Xk0_9.here hx rfl (hb hby at_88) rfl ?_
      show Steps p.tables e below (Tk0_9.setTop (mkF m 89 #[.val (.long q0_0), .second, .val (.long q0_1), .second, .val (.long q0_2), .second, .val (.long q0_3), .second, .val (.int p0_4), .val (.long (own_v0_0 q0_0)), .second, .val (.long (own_v0_1 q0_0)), .second, .val (.long (own_v0_2 q0_1)), .second, .val (.long (own_v0_3 q0_1)), .second, .val (.long (own_v0_4 q0_2)), .second, .val (.long (own_v0_5 q0_2)), .second, .val (.int (p0_4 &&& (3 : Int32))), .val (.long (own_v0_6 q0_3)), .second, .unset, .unset, .unset, .unset, .unset, .unset, .unset, .unset, .unset, .unset, .unset, .unset] [(.long (own_r1_0 (XT.ushrL q0_3 (32 : Int32)).toInt32).toInt64)])) _
      refine XT.lstore Xk0_9.here hx rfl (hb hby at_89) rfl (l' := #[.val (.long q0_0), .second, .val (.long q0_1), .second, .val (.long q0_2), .second, .val (.long q0_3), .second, .val (.int p0_4), .val (.long (own_v0_0 q0_0)), .second, .val (.long (own_v0_1 q0_0)), .second, .val (.long (own_v0_2 q0_1)), .second, .val (.long (own_v0_3 q0_1)), .second, .val (.long (own_v0_4 q0_2)), .second, .val (.long (own_v0_5 q0_2)), .second, .val (.int (p0_4 &&& (3 : Int32))), .val (.long (own_v0_6 q0_3)), .second, .val (.long (own_v0_7 q0_3)), .second, .unset, .unset, .unset, .unset, .unset, .unset, .unset, .unset, .unset, .unset]) rfl ?_
      show Steps p.tables e below (Tk0_9.setTop (mkF m 91 #[.val (.long q0_0), .second, .val (.long q0_1), .second, .val (.long q0_2), .second, .val (.long q0_3), .second, .val (.int p0_4), .val (.long (own_v0_0 q0_0)), .second, .val (.long (own_v0_1 q0_0)), .second, .val (.long (own_v0_2 q0_1)), .second, .val (.long (own_v0_3 q0_1)), .second, .val (.long (own_v0_4 q0_2)), .second, .val (.long (own_v0_5 q0_2)), .second, .val (.int (p0_4 &&& (3 : Int32))), .val (.long (own_v0_6 q0_3)), .second, .val (.long (own_v0_7 q0_3)), .second, .unset, .unset, .unset, .unset, .unset, .unset, .unset, .unset, .unset, .unset] [])) _
      refine XS.goto Xk0_9.here hx rfl (pc0 := 91) (pc' := 160) rfl (hb hby at_91) (by decide) (by decide) ?_
      exact kt
    · obtain ⟨Tj0_10, lj0_10, Xj0_10, Nj0_10, ej0_10, stj0_10⟩ : ∃ (T' : State) (l' : List Loc), Stand p l e room_1 s m #[(.long q0_0), (.long q0_1), (.long q0_2), (.long q0_3), (.int p0_4)] below meth c T' l' 0 0 ∧ Fr n0 l' ∧ T'.heap = h0 ∧ ∀ target, Steps p.tables e below (T'.setTop (mkF m 160 #[.val (.long q0_0), .second, .val (.long q0_1), .second, .val (.long q0_2), .second, .val (.long q0_3), .second, .val (.int p0_4), .val (.long (own_v0_0 q0_0)), .second, .val (.long (own_v0_1 q0_0)), .second, .val (.long (own_v0_2 q0_1)), .second, .val (.long (own_v0_3 q0_1)), .second, .val (.long (own_v0_4 q0_2)), .second, .val (.long (own_v0_5 q0_2)), .second, .val (.int (p0_4 &&& (3 : Int32))), .val (.long (own_j0_14 q0_0 q0_1 q0_2 p0_4)), .second, .val (.long (own_j0_15 q0_0 q0_1 q0_2 p0_4)), .second, .unset, .unset, .unset, .unset, .unset, .unset, .unset, .unset, .unset, .unset] [])) target → Steps p.tables e below (Tk0_6.setTop (mkF m 97 #[.val (.long q0_0), .second, .val (.long q0_1), .second, .val (.long q0_2), .second, .val (.long q0_3), .second, .val (.int p0_4), .val (.long (own_v0_0 q0_0)), .second, .val (.long (own_v0_1 q0_0)), .second, .val (.long (own_v0_2 q0_1)), .second, .val (.long (own_v0_3 q0_1)), .second, .val (.long (own_v0_4 q0_2)), .second, .val (.long (own_v0_5 q0_2)), .second, .val (.int (p0_4 &&& (3 : Int32))), .unset, .unset, .unset, .unset, .unset, .unset, .unset, .unset, .unset, .unset, .unset, .unset, .unset, .unset] [(.int (1 : Int32)), (.int (p0_4 &&& (3 : Int32)))])) target := by
        by_cases hj0_10 : (p0_4 &&& (3 : Int32)) = (1 : Int32)
        · refine ⟨_, _, Xk0_6, Nk0_6, ek0_6, fun target kt => ?_⟩
          rw [(show (own_j0_14 q0_0 q0_1 q0_2 p0_4) = (own_v0_4 q0_2) from if_pos hj0_10), (show (own_j0_15 q0_0 q0_1 q0_2 p0_4) = (own_v0_5 q0_2) from if_pos hj0_10)] at kt
          show Steps p.tables e below (Tk0_6.setTop (mkF m 97 #[.val (.long q0_0), .second, .val (.long q0_1), .second, .val (.long q0_2), .second, .val (.long q0_3), .second, .val (.int p0_4), .val (.long (own_v0_0 q0_0)), .second, .val (.long (own_v0_1 q0_0)), .second, .val (.long (own_v0_2 q0_1)), .second, .val (.long (own_v0_3 q0_1)), .second, .val (.long (own_v0_4 q0_2)), .second, .val (.long (own_v0_5 q0_2)), .second, .val (.int (p0_4 &&& (3 : Int32))), .unset, .unset, .unset, .unset, .unset, .unset, .unset, .unset, .unset, .unset, .unset, .unset, .unset, .unset] [(.int (1 : Int32)), (.int (p0_4 &&& (3 : Int32)))])) _
          refine XS.icmpNo Xk0_6.here hx rfl (hb hby at_97) rfl (XT.ii_ne_f hj0_10) ?_
          show Steps p.tables e below (Tk0_6.setTop (mkF m 100 #[.val (.long q0_0), .second, .val (.long q0_1), .second, .val (.long q0_2), .second, .val (.long q0_3), .second, .val (.int p0_4), .val (.long (own_v0_0 q0_0)), .second, .val (.long (own_v0_1 q0_0)), .second, .val (.long (own_v0_2 q0_1)), .second, .val (.long (own_v0_3 q0_1)), .second, .val (.long (own_v0_4 q0_2)), .second, .val (.long (own_v0_5 q0_2)), .second, .val (.int (p0_4 &&& (3 : Int32))), .unset, .unset, .unset, .unset, .unset, .unset, .unset, .unset, .unset, .unset, .unset, .unset, .unset, .unset] [])) _
          refine XT.lload Xk0_6.here hx rfl (hb hby at_100) rfl ?_
          show Steps p.tables e below (Tk0_6.setTop (mkF m 102 #[.val (.long q0_0), .second, .val (.long q0_1), .second, .val (.long q0_2), .second, .val (.long q0_3), .second, .val (.int p0_4), .val (.long (own_v0_0 q0_0)), .second, .val (.long (own_v0_1 q0_0)), .second, .val (.long (own_v0_2 q0_1)), .second, .val (.long (own_v0_3 q0_1)), .second, .val (.long (own_v0_4 q0_2)), .second, .val (.long (own_v0_5 q0_2)), .second, .val (.int (p0_4 &&& (3 : Int32))), .unset, .unset, .unset, .unset, .unset, .unset, .unset, .unset, .unset, .unset, .unset, .unset, .unset, .unset] [(.long (own_v0_4 q0_2))])) _
          refine XT.lstore Xk0_6.here hx rfl (hb hby at_102) rfl (l' := #[.val (.long q0_0), .second, .val (.long q0_1), .second, .val (.long q0_2), .second, .val (.long q0_3), .second, .val (.int p0_4), .val (.long (own_v0_0 q0_0)), .second, .val (.long (own_v0_1 q0_0)), .second, .val (.long (own_v0_2 q0_1)), .second, .val (.long (own_v0_3 q0_1)), .second, .val (.long (own_v0_4 q0_2)), .second, .val (.long (own_v0_5 q0_2)), .second, .val (.int (p0_4 &&& (3 : Int32))), .val (.long (own_v0_4 q0_2)), .second, .unset, .unset, .unset, .unset, .unset, .unset, .unset, .unset, .unset, .unset, .unset, .unset]) rfl ?_
          show Steps p.tables e below (Tk0_6.setTop (mkF m 104 #[.val (.long q0_0), .second, .val (.long q0_1), .second, .val (.long q0_2), .second, .val (.long q0_3), .second, .val (.int p0_4), .val (.long (own_v0_0 q0_0)), .second, .val (.long (own_v0_1 q0_0)), .second, .val (.long (own_v0_2 q0_1)), .second, .val (.long (own_v0_3 q0_1)), .second, .val (.long (own_v0_4 q0_2)), .second, .val (.long (own_v0_5 q0_2)), .second, .val (.int (p0_4 &&& (3 : Int32))), .val (.long (own_v0_4 q0_2)), .second, .unset, .unset, .unset, .unset, .unset, .unset, .unset, .unset, .unset, .unset, .unset, .unset] [])) _
          refine XT.lload Xk0_6.here hx rfl (hb hby at_104) rfl ?_
          show Steps p.tables e below (Tk0_6.setTop (mkF m 106 #[.val (.long q0_0), .second, .val (.long q0_1), .second, .val (.long q0_2), .second, .val (.long q0_3), .second, .val (.int p0_4), .val (.long (own_v0_0 q0_0)), .second, .val (.long (own_v0_1 q0_0)), .second, .val (.long (own_v0_2 q0_1)), .second, .val (.long (own_v0_3 q0_1)), .second, .val (.long (own_v0_4 q0_2)), .second, .val (.long (own_v0_5 q0_2)), .second, .val (.int (p0_4 &&& (3 : Int32))), .val (.long (own_v0_4 q0_2)), .second, .unset, .unset, .unset, .unset, .unset, .unset, .unset, .unset, .unset, .unset, .unset, .unset] [(.long (own_v0_5 q0_2))])) _
          refine XT.lstore Xk0_6.here hx rfl (hb hby at_106) rfl (l' := #[.val (.long q0_0), .second, .val (.long q0_1), .second, .val (.long q0_2), .second, .val (.long q0_3), .second, .val (.int p0_4), .val (.long (own_v0_0 q0_0)), .second, .val (.long (own_v0_1 q0_0)), .second, .val (.long (own_v0_2 q0_1)), .second, .val (.long (own_v0_3 q0_1)), .second, .val (.long (own_v0_4 q0_2)), .second, .val (.long (own_v0_5 q0_2)), .second, .val (.int (p0_4 &&& (3 : Int32))), .val (.long (own_v0_4 q0_2)), .second, .val (.long (own_v0_5 q0_2)), .second, .unset, .unset, .unset, .unset, .unset, .unset, .unset, .unset, .unset, .unset]) rfl ?_
          show Steps p.tables e below (Tk0_6.setTop (mkF m 108 #[.val (.long q0_0), .second, .val (.long q0_1), .second, .val (.long q0_2), .second, .val (.long q0_3), .second, .val (.int p0_4), .val (.long (own_v0_0 q0_0)), .second, .val (.long (own_v0_1 q0_0)), .second, .val (.long (own_v0_2 q0_1)), .second, .val (.long (own_v0_3 q0_1)), .second, .val (.long (own_v0_4 q0_2)), .second, .val (.long (own_v0_5 q0_2)), .second, .val (.int (p0_4 &&& (3 : Int32))), .val (.long (own_v0_4 q0_2)), .second, .val (.long (own_v0_5 q0_2)), .second, .unset, .unset, .unset, .unset, .unset, .unset, .unset, .unset, .unset, .unset] [])) _
          refine XS.goto Xk0_6.here hx rfl (pc0 := 108) (pc' := 160) rfl (hb hby at_108) (by decide) (by decide) ?_
          exact kt
        · obtain ⟨Tj0_11, lj0_11, Xj0_11, Nj0_11, ej0_11, stj0_11⟩ : ∃ (T' : State) (l' : List Loc), Stand p l e room_1 s m #[(.long q0_0), (.long q0_1), (.long q0_2), (.long q0_3), (.int p0_4)] below meth c T' l' 0 0 ∧ Fr n0 l' ∧ T'.heap = h0 ∧ ∀ target, Steps p.tables e below (T'.setTop (mkF m 160 #[.val (.long q0_0), .second, .val (.long q0_1), .second, .val (.long q0_2), .second, .val (.long q0_3), .second, .val (.int p0_4), .val (.long (own_v0_0 q0_0)), .second, .val (.long (own_v0_1 q0_0)), .second, .val (.long (own_v0_2 q0_1)), .second, .val (.long (own_v0_3 q0_1)), .second, .val (.long (own_v0_4 q0_2)), .second, .val (.long (own_v0_5 q0_2)), .second, .val (.int (p0_4 &&& (3 : Int32))), .val (.long (own_j0_12 q0_0 q0_1 p0_4)), .second, .val (.long (own_j0_13 q0_0 q0_1 p0_4)), .second, .unset, .unset, .unset, .unset, .unset, .unset, .unset, .unset, .unset, .unset] [])) target → Steps p.tables e below (Tk0_6.setTop (mkF m 114 #[.val (.long q0_0), .second, .val (.long q0_1), .second, .val (.long q0_2), .second, .val (.long q0_3), .second, .val (.int p0_4), .val (.long (own_v0_0 q0_0)), .second, .val (.long (own_v0_1 q0_0)), .second, .val (.long (own_v0_2 q0_1)), .second, .val (.long (own_v0_3 q0_1)), .second, .val (.long (own_v0_4 q0_2)), .second, .val (.long (own_v0_5 q0_2)), .second, .val (.int (p0_4 &&& (3 : Int32))), .unset, .unset, .unset, .unset, .unset, .unset, .unset, .unset, .unset, .unset, .unset, .unset, .unset, .unset] [(.int (2 : Int32)), (.int (p0_4 &&& (3 : Int32)))])) target := by
            by_cases hj0_11 : (p0_4 &&& (3 : Int32)) = (2 : Int32)
            · refine ⟨_, _, Xk0_6, Nk0_6, ek0_6, fun target kt => ?_⟩
              rw [(show (own_j0_12 q0_0 q0_1 p0_4) = (own_v0_8 q0_0 q0_1) from if_pos hj0_11), (show (own_j0_13 q0_0 q0_1 p0_4) = (own_v0_9 q0_0 q0_1) from if_pos hj0_11)] at kt
              show Steps p.tables e below (Tk0_6.setTop (mkF m 114 #[.val (.long q0_0), .second, .val (.long q0_1), .second, .val (.long q0_2), .second, .val (.long q0_3), .second, .val (.int p0_4), .val (.long (own_v0_0 q0_0)), .second, .val (.long (own_v0_1 q0_0)), .second, .val (.long (own_v0_2 q0_1)), .second, .val (.long (own_v0_3 q0_1)), .second, .val (.long (own_v0_4 q0_2)), .second, .val (.long (own_v0_5 q0_2)), .second, .val (.int (p0_4 &&& (3 : Int32))), .unset, .unset, .unset, .unset, .unset, .unset, .unset, .unset, .unset, .unset, .unset, .unset, .unset, .unset] [(.int (2 : Int32)), (.int (p0_4 &&& (3 : Int32)))])) _
              refine XS.icmpNo Xk0_6.here hx rfl (hb hby at_114) rfl (XT.ii_ne_f hj0_11) ?_
              show Steps p.tables e below (Tk0_6.setTop (mkF m 117 #[.val (.long q0_0), .second, .val (.long q0_1), .second, .val (.long q0_2), .second, .val (.long q0_3), .second, .val (.int p0_4), .val (.long (own_v0_0 q0_0)), .second, .val (.long (own_v0_1 q0_0)), .second, .val (.long (own_v0_2 q0_1)), .second, .val (.long (own_v0_3 q0_1)), .second, .val (.long (own_v0_4 q0_2)), .second, .val (.long (own_v0_5 q0_2)), .second, .val (.int (p0_4 &&& (3 : Int32))), .unset, .unset, .unset, .unset, .unset, .unset, .unset, .unset, .unset, .unset, .unset, .unset, .unset, .unset] [])) _
              refine Xk0_6.ldc2Long hx hown (mvT hZ (hw _ (List.mem_of_getElem? (i := 34) rfl))) (g := (mkF m 117 #[.val (.long q0_0), .second, .val (.long q0_1), .second, .val (.long q0_2), .second, .val (.long q0_3), .second, .val (.int p0_4), .val (.long (own_v0_0 q0_0)), .second, .val (.long (own_v0_1 q0_0)), .second, .val (.long (own_v0_2 q0_1)), .second, .val (.long (own_v0_3 q0_1)), .second, .val (.long (own_v0_4 q0_2)), .second, .val (.long (own_v0_5 q0_2)), .second, .val (.int (p0_4 &&& (3 : Int32))), .unset, .unset, .unset, .unset, .unset, .unset, .unset, .unset, .unset, .unset, .unset, .unset, .unset, .unset] [])) rfl (hb hby at_117) _ ?_
              show Steps p.tables e below (Tk0_6.setTop (mkF m 120 #[.val (.long q0_0), .second, .val (.long q0_1), .second, .val (.long q0_2), .second, .val (.long q0_3), .second, .val (.int p0_4), .val (.long (own_v0_0 q0_0)), .second, .val (.long (own_v0_1 q0_0)), .second, .val (.long (own_v0_2 q0_1)), .second, .val (.long (own_v0_3 q0_1)), .second, .val (.long (own_v0_4 q0_2)), .second, .val (.long (own_v0_5 q0_2)), .second, .val (.int (p0_4 &&& (3 : Int32))), .unset, .unset, .unset, .unset, .unset, .unset, .unset, .unset, .unset, .unset, .unset, .unset, .unset, .unset] [(.long (2 : Int64))])) _
              refine XT.lload Xk0_6.here hx rfl (hb hby at_120) rfl ?_
              show Steps p.tables e below (Tk0_6.setTop (mkF m 122 #[.val (.long q0_0), .second, .val (.long q0_1), .second, .val (.long q0_2), .second, .val (.long q0_3), .second, .val (.int p0_4), .val (.long (own_v0_0 q0_0)), .second, .val (.long (own_v0_1 q0_0)), .second, .val (.long (own_v0_2 q0_1)), .second, .val (.long (own_v0_3 q0_1)), .second, .val (.long (own_v0_4 q0_2)), .second, .val (.long (own_v0_5 q0_2)), .second, .val (.int (p0_4 &&& (3 : Int32))), .unset, .unset, .unset, .unset, .unset, .unset, .unset, .unset, .unset, .unset, .unset, .unset, .unset, .unset] [(.long (own_v0_0 q0_0)), (.long (2 : Int64))])) _
              refine XT.lmul Xk0_6.here hx rfl (hb hby at_122) rfl ?_
              show Steps p.tables e below (Tk0_6.setTop (mkF m 123 #[.val (.long q0_0), .second, .val (.long q0_1), .second, .val (.long q0_2), .second, .val (.long q0_3), .second, .val (.int p0_4), .val (.long (own_v0_0 q0_0)), .second, .val (.long (own_v0_1 q0_0)), .second, .val (.long (own_v0_2 q0_1)), .second, .val (.long (own_v0_3 q0_1)), .second, .val (.long (own_v0_4 q0_2)), .second, .val (.long (own_v0_5 q0_2)), .second, .val (.int (p0_4 &&& (3 : Int32))), .unset, .unset, .unset, .unset, .unset, .unset, .unset, .unset, .unset, .unset, .unset, .unset, .unset, .unset] [(.long ((2 : Int64) * (own_v0_0 q0_0)))])) _
              refine XT.lload Xk0_6.here hx rfl (hb hby at_123) rfl ?_
              show Steps p.tables e below (Tk0_6.setTop (mkF m 125 #[.val (.long q0_0), .second, .val (.long q0_1), .second, .val (.long q0_2), .second, .val (.long q0_3), .second, .val (.int p0_4), .val (.long (own_v0_0 q0_0)), .second, .val (.long (own_v0_1 q0_0)), .second, .val (.long (own_v0_2 q0_1)), .second, .val (.long (own_v0_3 q0_1)), .second, .val (.long (own_v0_4 q0_2)), .second, .val (.long (own_v0_5 q0_2)), .second, .val (.int (p0_4 &&& (3 : Int32))), .unset, .unset, .unset, .unset, .unset, .unset, .unset, .unset, .unset, .unset, .unset, .unset, .unset, .unset] [(.long (own_v0_2 q0_1)), (.long ((2 : Int64) * (own_v0_0 q0_0)))])) _
              refine XT.lsub Xk0_6.here hx rfl (hb hby at_125) rfl ?_
              show Steps p.tables e below (Tk0_6.setTop (mkF m 126 #[.val (.long q0_0), .second, .val (.long q0_1), .second, .val (.long q0_2), .second, .val (.long q0_3), .second, .val (.int p0_4), .val (.long (own_v0_0 q0_0)), .second, .val (.long (own_v0_1 q0_0)), .second, .val (.long (own_v0_2 q0_1)), .second, .val (.long (own_v0_3 q0_1)), .second, .val (.long (own_v0_4 q0_2)), .second, .val (.long (own_v0_5 q0_2)), .second, .val (.int (p0_4 &&& (3 : Int32))), .unset, .unset, .unset, .unset, .unset, .unset, .unset, .unset, .unset, .unset, .unset, .unset, .unset, .unset] [(.long (((2 : Int64) * (own_v0_0 q0_0)) - (own_v0_2 q0_1)))])) _
              refine XT.lstore Xk0_6.here hx rfl (hb hby at_126) rfl (l' := #[.val (.long q0_0), .second, .val (.long q0_1), .second, .val (.long q0_2), .second, .val (.long q0_3), .second, .val (.int p0_4), .val (.long (own_v0_0 q0_0)), .second, .val (.long (own_v0_1 q0_0)), .second, .val (.long (own_v0_2 q0_1)), .second, .val (.long (own_v0_3 q0_1)), .second, .val (.long (own_v0_4 q0_2)), .second, .val (.long (own_v0_5 q0_2)), .second, .val (.int (p0_4 &&& (3 : Int32))), .val (.long (own_v0_8 q0_0 q0_1)), .second, .unset, .unset, .unset, .unset, .unset, .unset, .unset, .unset, .unset, .unset, .unset, .unset]) rfl ?_
              show Steps p.tables e below (Tk0_6.setTop (mkF m 128 #[.val (.long q0_0), .second, .val (.long q0_1), .second, .val (.long q0_2), .second, .val (.long q0_3), .second, .val (.int p0_4), .val (.long (own_v0_0 q0_0)), .second, .val (.long (own_v0_1 q0_0)), .second, .val (.long (own_v0_2 q0_1)), .second, .val (.long (own_v0_3 q0_1)), .second, .val (.long (own_v0_4 q0_2)), .second, .val (.long (own_v0_5 q0_2)), .second, .val (.int (p0_4 &&& (3 : Int32))), .val (.long (own_v0_8 q0_0 q0_1)), .second, .unset, .unset, .unset, .unset, .unset, .unset, .unset, .unset, .unset, .unset, .unset, .unset] [])) _
              refine Xk0_6.ldc2Long hx hown (mvT hZ (hw _ (List.mem_of_getElem? (i := 34) rfl))) (g := (mkF m 128 #[.val (.long q0_0), .second, .val (.long q0_1), .second, .val (.long q0_2), .second, .val (.long q0_3), .second, .val (.int p0_4), .val (.long (own_v0_0 q0_0)), .second, .val (.long (own_v0_1 q0_0)), .second, .val (.long (own_v0_2 q0_1)), .second, .val (.long (own_v0_3 q0_1)), .second, .val (.long (own_v0_4 q0_2)), .second, .val (.long (own_v0_5 q0_2)), .second, .val (.int (p0_4 &&& (3 : Int32))), .val (.long (own_v0_8 q0_0 q0_1)), .second, .unset, .unset, .unset, .unset, .unset, .unset, .unset, .unset, .unset, .unset, .unset, .unset] [])) rfl (hb hby at_128) _ ?_
              show Steps p.tables e below (Tk0_6.setTop (mkF m 131 #[.val (.long q0_0), .second, .val (.long q0_1), .second, .val (.long q0_2), .second, .val (.long q0_3), .second, .val (.int p0_4), .val (.long (own_v0_0 q0_0)), .second, .val (.long (own_v0_1 q0_0)), .second, .val (.long (own_v0_2 q0_1)), .second, .val (.long (own_v0_3 q0_1)), .second, .val (.long (own_v0_4 q0_2)), .second, .val (.long (own_v0_5 q0_2)), .second, .val (.int (p0_4 &&& (3 : Int32))), .val (.long (own_v0_8 q0_0 q0_1)), .second, .unset, .unset, .unset, .unset, .unset, .unset, .unset, .unset, .unset, .unset, .unset, .unset] [(.long (2 : Int64))])) _
              refine XT.lload Xk0_6.here hx rfl (hb hby at_131) rfl ?_
              show Steps p.tables e below (Tk0_6.setTop (mkF m 133 #[.val (.long q0_0), .second, .val (.long q0_1), .second, .val (.long q0_2), .second, .val (.long q0_3), .second, .val (.int p0_4), .val (.long (own_v0_0 q0_0)), .second, .val (.long (own_v0_1 q0_0)), .second, .val (.long (own_v0_2 q0_1)), .second, .val (.long (own_v0_3 q0_1)), .second, .val (.long (own_v0_4 q0_2)), .second, .val (.long (own_v0_5 q0_2)), .second, .val (.int (p0_4 &&& (3 : Int32))), .val (.long (own_v0_8 q0_0 q0_1)), .second, .unset, .unset, .unset, .unset, .unset, .unset, .unset, .unset, .unset, .unset, .unset, .unset] [(.long (own_v0_1 q0_0)), (.long (2 : Int64))])) _
              refine XT.lmul Xk0_6.here hx rfl (hb hby at_133) rfl ?_
              show Steps p.tables e below (Tk0_6.setTop (mkF m 134 #[.val (.long q0_0), .second, .val (.long q0_1), .second, .val (.long q0_2), .second, .val (.long q0_3), .second, .val (.int p0_4), .val (.long (own_v0_0 q0_0)), .second, .val (.long (own_v0_1 q0_0)), .second, .val (.long (own_v0_2 q0_1)), .second, .val (.long (own_v0_3 q0_1)), .second, .val (.long (own_v0_4 q0_2)), .second, .val (.long (own_v0_5 q0_2)), .second, .val (.int (p0_4 &&& (3 : Int32))), .val (.long (own_v0_8 q0_0 q0_1)), .second, .unset, .unset, .unset, .unset, .unset, .unset, .unset, .unset, .unset, .unset, .unset, .unset] [(.long ((2 : Int64) * (own_v0_1 q0_0)))])) _
              refine XT.lload Xk0_6.here hx rfl (hb hby at_134) rfl ?_
              show Steps p.tables e below (Tk0_6.setTop (mkF m 136 #[.val (.long q0_0), .second, .val (.long q0_1), .second, .val (.long q0_2), .second, .val (.long q0_3), .second, .val (.int p0_4), .val (.long (own_v0_0 q0_0)), .second, .val (.long (own_v0_1 q0_0)), .second, .val (.long (own_v0_2 q0_1)), .second, .val (.long (own_v0_3 q0_1)), .second, .val (.long (own_v0_4 q0_2)), .second, .val (.long (own_v0_5 q0_2)), .second, .val (.int (p0_4 &&& (3 : Int32))), .val (.long (own_v0_8 q0_0 q0_1)), .second, .unset, .unset, .unset, .unset, .unset, .unset, .unset, .unset, .unset, .unset, .unset, .unset] [(.long (own_v0_3 q0_1)), (.long ((2 : Int64) * (own_v0_1 q0_0)))])) _
              refine XT.lsub Xk0_6.here hx rfl (hb hby at_136) rfl ?_
              show Steps p.tables e below (Tk0_6.setTop (mkF m 137 #[.val (.long q0_0), .second, .val (.long q0_1), .second, .val (.long q0_2), .second, .val (.long q0_3), .second, .val (.int p0_4), .val (.long (own_v0_0 q0_0)), .second, .val (.long (own_v0_1 q0_0)), .second, .val (.long (own_v0_2 q0_1)), .second, .val (.long (own_v0_3 q0_1)), .second, .val (.long (own_v0_4 q0_2)), .second, .val (.long (own_v0_5 q0_2)), .second, .val (.int (p0_4 &&& (3 : Int32))), .val (.long (own_v0_8 q0_0 q0_1)), .second, .unset, .unset, .unset, .unset, .unset, .unset, .unset, .unset, .unset, .unset, .unset, .unset] [(.long (((2 : Int64) * (own_v0_1 q0_0)) - (own_v0_3 q0_1)))])) _
              refine XT.lstore Xk0_6.here hx rfl (hb hby at_137) rfl (l' := #[.val (.long q0_0), .second, .val (.long q0_1), .second, .val (.long q0_2), .second, .val (.long q0_3), .second, .val (.int p0_4), .val (.long (own_v0_0 q0_0)), .second, .val (.long (own_v0_1 q0_0)), .second, .val (.long (own_v0_2 q0_1)), .second, .val (.long (own_v0_3 q0_1)), .second, .val (.long (own_v0_4 q0_2)), .second, .val (.long (own_v0_5 q0_2)), .second, .val (.int (p0_4 &&& (3 : Int32))), .val (.long (own_v0_8 q0_0 q0_1)), .second, .val (.long (own_v0_9 q0_0 q0_1)), .second, .unset, .unset, .unset, .unset, .unset, .unset, .unset, .unset, .unset, .unset]) rfl ?_
              show Steps p.tables e below (Tk0_6.setTop (mkF m 139 #[.val (.long q0_0), .second, .val (.long q0_1), .second, .val (.long q0_2), .second, .val (.long q0_3), .second, .val (.int p0_4), .val (.long (own_v0_0 q0_0)), .second, .val (.long (own_v0_1 q0_0)), .second, .val (.long (own_v0_2 q0_1)), .second, .val (.long (own_v0_3 q0_1)), .second, .val (.long (own_v0_4 q0_2)), .second, .val (.long (own_v0_5 q0_2)), .second, .val (.int (p0_4 &&& (3 : Int32))), .val (.long (own_v0_8 q0_0 q0_1)), .second, .val (.long (own_v0_9 q0_0 q0_1)), .second, .unset, .unset, .unset, .unset, .unset, .unset, .unset, .unset, .unset, .unset] [])) _
              refine XS.goto Xk0_6.here hx rfl (pc0 := 139) (pc' := 160) rfl (hb hby at_139) (by decide) (by decide) ?_
              exact kt
            · refine ⟨_, _, Xk0_6, Nk0_6, ek0_6, fun target kt => ?_⟩
              rw [(show (own_j0_12 q0_0 q0_1 p0_4) = (own_v0_10 q0_0 q0_1) from if_neg hj0_11), (show (own_j0_13 q0_0 q0_1 p0_4) = (own_v0_11 q0_0 q0_1) from if_neg hj0_11)] at kt
              show Steps p.tables e below (Tk0_6.setTop (mkF m 114 #[.val (.long q0_0), .second, .val (.long q0_1), .second, .val (.long q0_2), .second, .val (.long q0_3), .second, .val (.int p0_4), .val (.long (own_v0_0 q0_0)), .second, .val (.long (own_v0_1 q0_0)), .second, .val (.long (own_v0_2 q0_1)), .second, .val (.long (own_v0_3 q0_1)), .second, .val (.long (own_v0_4 q0_2)), .second, .val (.long (own_v0_5 q0_2)), .second, .val (.int (p0_4 &&& (3 : Int32))), .unset, .unset, .unset, .unset, .unset, .unset, .unset, .unset, .unset, .unset, .unset, .unset, .unset, .unset] [(.int (2 : Int32)), (.int (p0_4 &&& (3 : Int32)))])) _
              refine XS.icmpYes Xk0_6.here hx rfl (pc0 := 114) (pc' := 142) rfl (hb hby at_114) rfl (XT.ii_ne_t hj0_11) (by decide) (by decide) ?_
              show Steps p.tables e below (Tk0_6.setTop (mkF m 142 #[.val (.long q0_0), .second, .val (.long q0_1), .second, .val (.long q0_2), .second, .val (.long q0_3), .second, .val (.int p0_4), .val (.long (own_v0_0 q0_0)), .second, .val (.long (own_v0_1 q0_0)), .second, .val (.long (own_v0_2 q0_1)), .second, .val (.long (own_v0_3 q0_1)), .second, .val (.long (own_v0_4 q0_2)), .second, .val (.long (own_v0_5 q0_2)), .second, .val (.int (p0_4 &&& (3 : Int32))), .unset, .unset, .unset, .unset, .unset, .unset, .unset, .unset, .unset, .unset, .unset, .unset, .unset, .unset] [])) _
              refine XT.lload Xk0_6.here hx rfl (hb hby at_142) rfl ?_
              show Steps p.tables e below (Tk0_6.setTop (mkF m 144 #[.val (.long q0_0), .second, .val (.long q0_1), .second, .val (.long q0_2), .second, .val (.long q0_3), .second, .val (.int p0_4), .val (.long (own_v0_0 q0_0)), .second, .val (.long (own_v0_1 q0_0)), .second, .val (.long (own_v0_2 q0_1)), .second, .val (.long (own_v0_3 q0_1)), .second, .val (.long (own_v0_4 q0_2)), .second, .val (.long (own_v0_5 q0_2)), .second, .val (.int (p0_4 &&& (3 : Int32))), .unset, .unset, .unset, .unset, .unset, .unset, .unset, .unset, .unset, .unset, .unset, .unset, .unset, .unset] [(.long (own_v0_0 q0_0))])) _
              refine XT.lload Xk0_6.here hx rfl (hb hby at_144) rfl ?_
              show Steps p.tables e below (Tk0_6.setTop (mkF m 146 #[.val (.long q0_0), .second, .val (.long q0_1), .second, .val (.long q0_2), .second, .val (.long q0_3), .second, .val (.int p0_4), .val (.long (own_v0_0 q0_0)), .second, .val (.long (own_v0_1 q0_0)), .second, .val (.long (own_v0_2 q0_1)), .second, .val (.long (own_v0_3 q0_1)), .second, .val (.long (own_v0_4 q0_2)), .second, .val (.long (own_v0_5 q0_2)), .second, .val (.int (p0_4 &&& (3 : Int32))), .unset, .unset, .unset, .unset, .unset, .unset, .unset, .unset, .unset, .unset, .unset, .unset, .unset, .unset] [(.long (own_v0_2 q0_1)), (.long (own_v0_0 q0_0))])) _
              refine XT.ladd Xk0_6.here hx rfl (hb hby at_146) rfl ?_
              show Steps p.tables e below (Tk0_6.setTop (mkF m 147 #[.val (.long q0_0), .second, .val (.long q0_1), .second, .val (.long q0_2), .second, .val (.long q0_3), .second, .val (.int p0_4), .val (.long (own_v0_0 q0_0)), .second, .val (.long (own_v0_1 q0_0)), .second, .val (.long (own_v0_2 q0_1)), .second, .val (.long (own_v0_3 q0_1)), .second, .val (.long (own_v0_4 q0_2)), .second, .val (.long (own_v0_5 q0_2)), .second, .val (.int (p0_4 &&& (3 : Int32))), .unset, .unset, .unset, .unset, .unset, .unset, .unset, .unset, .unset, .unset, .unset, .unset, .unset, .unset] [(.long ((own_v0_0 q0_0) + (own_v0_2 q0_1)))])) _
              refine XS.iconst Xk0_6.here hx rfl (hb hby at_147) ?_
              show Steps p.tables e below (Tk0_6.setTop (mkF m 148 #[.val (.long q0_0), .second, .val (.long q0_1), .second, .val (.long q0_2), .second, .val (.long q0_3), .second, .val (.int p0_4), .val (.long (own_v0_0 q0_0)), .second, .val (.long (own_v0_1 q0_0)), .second, .val (.long (own_v0_2 q0_1)), .second, .val (.long (own_v0_3 q0_1)), .second, .val (.long (own_v0_4 q0_2)), .second, .val (.long (own_v0_5 q0_2)), .second, .val (.int (p0_4 &&& (3 : Int32))), .unset, .unset, .unset, .unset, .unset, .unset, .unset, .unset, .unset, .unset, .unset, .unset, .unset, .unset] [(.int (1 : Int32)), (.long ((own_v0_0 q0_0) + (own_v0_2 q0_1)))])) _
              refine XT.lshr Xk0_6.here hx rfl (hb hby at_148) rfl ?_
              show Steps p.tables e below (Tk0_6.setTop (mkF m 149 #[.val (.long q0_0), .second, .val (.long q0_1), .second, .val (.long q0_2), .second, .val (.long q0_3), .second, .val (.int p0_4), .val (.long (own_v0_0 q0_0)), .second, .val (.long (own_v0_1 q0_0)), .second, .val (.long (own_v0_2 q0_1)), .second, .val (.long (own_v0_3 q0_1)), .second, .val (.long (own_v0_4 q0_2)), .second, .val (.long (own_v0_5 q0_2)), .second, .val (.int (p0_4 &&& (3 : Int32))), .unset, .unset, .unset, .unset, .unset, .unset, .unset, .unset, .unset, .unset, .unset, .unset, .unset, .unset] [(.long (((own_v0_0 q0_0) + (own_v0_2 q0_1)) >>> ((1 : Int32).toInt64 &&& 63)))])) _
              refine XT.lstore Xk0_6.here hx rfl (hb hby at_149) rfl (l' := #[.val (.long q0_0), .second, .val (.long q0_1), .second, .val (.long q0_2), .second, .val (.long q0_3), .second, .val (.int p0_4), .val (.long (own_v0_0 q0_0)), .second, .val (.long (own_v0_1 q0_0)), .second, .val (.long (own_v0_2 q0_1)), .second, .val (.long (own_v0_3 q0_1)), .second, .val (.long (own_v0_4 q0_2)), .second, .val (.long (own_v0_5 q0_2)), .second, .val (.int (p0_4 &&& (3 : Int32))), .val (.long (own_v0_10 q0_0 q0_1)), .second, .unset, .unset, .unset, .unset, .unset, .unset, .unset, .unset, .unset, .unset, .unset, .unset]) rfl ?_
              show Steps p.tables e below (Tk0_6.setTop (mkF m 151 #[.val (.long q0_0), .second, .val (.long q0_1), .second, .val (.long q0_2), .second, .val (.long q0_3), .second, .val (.int p0_4), .val (.long (own_v0_0 q0_0)), .second, .val (.long (own_v0_1 q0_0)), .second, .val (.long (own_v0_2 q0_1)), .second, .val (.long (own_v0_3 q0_1)), .second, .val (.long (own_v0_4 q0_2)), .second, .val (.long (own_v0_5 q0_2)), .second, .val (.int (p0_4 &&& (3 : Int32))), .val (.long (own_v0_10 q0_0 q0_1)), .second, .unset, .unset, .unset, .unset, .unset, .unset, .unset, .unset, .unset, .unset, .unset, .unset] [])) _
              refine XT.lload Xk0_6.here hx rfl (hb hby at_151) rfl ?_
              show Steps p.tables e below (Tk0_6.setTop (mkF m 153 #[.val (.long q0_0), .second, .val (.long q0_1), .second, .val (.long q0_2), .second, .val (.long q0_3), .second, .val (.int p0_4), .val (.long (own_v0_0 q0_0)), .second, .val (.long (own_v0_1 q0_0)), .second, .val (.long (own_v0_2 q0_1)), .second, .val (.long (own_v0_3 q0_1)), .second, .val (.long (own_v0_4 q0_2)), .second, .val (.long (own_v0_5 q0_2)), .second, .val (.int (p0_4 &&& (3 : Int32))), .val (.long (own_v0_10 q0_0 q0_1)), .second, .unset, .unset, .unset, .unset, .unset, .unset, .unset, .unset, .unset, .unset, .unset, .unset] [(.long (own_v0_1 q0_0))])) _
              refine XT.lload Xk0_6.here hx rfl (hb hby at_153) rfl ?_
              show Steps p.tables e below (Tk0_6.setTop (mkF m 155 #[.val (.long q0_0), .second, .val (.long q0_1), .second, .val (.long q0_2), .second, .val (.long q0_3), .second, .val (.int p0_4), .val (.long (own_v0_0 q0_0)), .second, .val (.long (own_v0_1 q0_0)), .second, .val (.long (own_v0_2 q0_1)), .second, .val (.long (own_v0_3 q0_1)), .second, .val (.long (own_v0_4 q0_2)), .second, .val (.long (own_v0_5 q0_2)), .second, .val (.int (p0_4 &&& (3 : Int32))), .val (.long (own_v0_10 q0_0 q0_1)), .second, .unset, .unset, .unset, .unset, .unset, .unset, .unset, .unset, .unset, .unset, .unset, .unset] [(.long (own_v0_3 q0_1)), (.long (own_v0_1 q0_0))])) _
              refine XT.ladd Xk0_6.here hx rfl (hb hby at_155) rfl ?_
              show Steps p.tables e below (Tk0_6.setTop (mkF m 156 #[.val (.long q0_0), .second, .val (.long q0_1), .second, .val (.long q0_2), .second, .val (.long q0_3), .second, .val (.int p0_4), .val (.long (own_v0_0 q0_0)), .second, .val (.long (own_v0_1 q0_0)), .second, .val (.long (own_v0_2 q0_1)), .second, .val (.long (own_v0_3 q0_1)), .second, .val (.long (own_v0_4 q0_2)), .second, .val (.long (own_v0_5 q0_2)), .second, .val (.int (p0_4 &&& (3 : Int32))), .val (.long (own_v0_10 q0_0 q0_1)), .second, .unset, .unset, .unset, .unset, .unset, .unset, .unset, .unset, .unset, .unset, .unset, .unset] [(.long ((own_v0_1 q0_0) + (own_v0_3 q0_1)))])) _
              refine XS.iconst Xk0_6.here hx rfl (hb hby at_156) ?_
              show Steps p.tables e below (Tk0_6.setTop (mkF m 157 #[.val (.long q0_0), .second, .val (.long q0_1), .second, .val (.long q0_2), .second, .val (.long q0_3), .second, .val (.int p0_4), .val (.long (own_v0_0 q0_0)), .second, .val (.long (own_v0_1 q0_0)), .second, .val (.long (own_v0_2 q0_1)), .second, .val (.long (own_v0_3 q0_1)), .second, .val (.long (own_v0_4 q0_2)), .second, .val (.long (own_v0_5 q0_2)), .second, .val (.int (p0_4 &&& (3 : Int32))), .val (.long (own_v0_10 q0_0 q0_1)), .second, .unset, .unset, .unset, .unset, .unset, .unset, .unset, .unset, .unset, .unset, .unset, .unset] [(.int (1 : Int32)), (.long ((own_v0_1 q0_0) + (own_v0_3 q0_1)))])) _
              refine XT.lshr Xk0_6.here hx rfl (hb hby at_157) rfl ?_
              show Steps p.tables e below (Tk0_6.setTop (mkF m 158 #[.val (.long q0_0), .second, .val (.long q0_1), .second, .val (.long q0_2), .second, .val (.long q0_3), .second, .val (.int p0_4), .val (.long (own_v0_0 q0_0)), .second, .val (.long (own_v0_1 q0_0)), .second, .val (.long (own_v0_2 q0_1)), .second, .val (.long (own_v0_3 q0_1)), .second, .val (.long (own_v0_4 q0_2)), .second, .val (.long (own_v0_5 q0_2)), .second, .val (.int (p0_4 &&& (3 : Int32))), .val (.long (own_v0_10 q0_0 q0_1)), .second, .unset, .unset, .unset, .unset, .unset, .unset, .unset, .unset, .unset, .unset, .unset, .unset] [(.long (((own_v0_1 q0_0) + (own_v0_3 q0_1)) >>> ((1 : Int32).toInt64 &&& 63)))])) _
              refine XT.lstore Xk0_6.here hx rfl (hb hby at_158) rfl (l' := #[.val (.long q0_0), .second, .val (.long q0_1), .second, .val (.long q0_2), .second, .val (.long q0_3), .second, .val (.int p0_4), .val (.long (own_v0_0 q0_0)), .second, .val (.long (own_v0_1 q0_0)), .second, .val (.long (own_v0_2 q0_1)), .second, .val (.long (own_v0_3 q0_1)), .second, .val (.long (own_v0_4 q0_2)), .second, .val (.long (own_v0_5 q0_2)), .second, .val (.int (p0_4 &&& (3 : Int32))), .val (.long (own_v0_10 q0_0 q0_1)), .second, .val (.long (own_v0_11 q0_0 q0_1)), .second, .unset, .unset, .unset, .unset, .unset, .unset, .unset, .unset, .unset, .unset]) rfl ?_
              exact kt
          refine ⟨_, _, Xj0_11, Nj0_11, ej0_11, fun target kt => ?_⟩
          rw [(show (own_j0_14 q0_0 q0_1 q0_2 p0_4) = (own_j0_12 q0_0 q0_1 p0_4) from if_neg hj0_10), (show (own_j0_15 q0_0 q0_1 q0_2 p0_4) = (own_j0_13 q0_0 q0_1 p0_4) from if_neg hj0_10)] at kt
          show Steps p.tables e below (Tk0_6.setTop (mkF m 97 #[.val (.long q0_0), .second, .val (.long q0_1), .second, .val (.long q0_2), .second, .val (.long q0_3), .second, .val (.int p0_4), .val (.long (own_v0_0 q0_0)), .second, .val (.long (own_v0_1 q0_0)), .second, .val (.long (own_v0_2 q0_1)), .second, .val (.long (own_v0_3 q0_1)), .second, .val (.long (own_v0_4 q0_2)), .second, .val (.long (own_v0_5 q0_2)), .second, .val (.int (p0_4 &&& (3 : Int32))), .unset, .unset, .unset, .unset, .unset, .unset, .unset, .unset, .unset, .unset, .unset, .unset, .unset, .unset] [(.int (1 : Int32)), (.int (p0_4 &&& (3 : Int32)))])) _
          refine XS.icmpYes Xk0_6.here hx rfl (pc0 := 97) (pc' := 111) rfl (hb hby at_97) rfl (XT.ii_ne_t hj0_10) (by decide) (by decide) ?_
          show Steps p.tables e below (Tk0_6.setTop (mkF m 111 #[.val (.long q0_0), .second, .val (.long q0_1), .second, .val (.long q0_2), .second, .val (.long q0_3), .second, .val (.int p0_4), .val (.long (own_v0_0 q0_0)), .second, .val (.long (own_v0_1 q0_0)), .second, .val (.long (own_v0_2 q0_1)), .second, .val (.long (own_v0_3 q0_1)), .second, .val (.long (own_v0_4 q0_2)), .second, .val (.long (own_v0_5 q0_2)), .second, .val (.int (p0_4 &&& (3 : Int32))), .unset, .unset, .unset, .unset, .unset, .unset, .unset, .unset, .unset, .unset, .unset, .unset, .unset, .unset] [])) _
          refine XS.iload Xk0_6.here hx rfl (hb hby at_111) rfl ?_
          show Steps p.tables e below (Tk0_6.setTop (mkF m 113 #[.val (.long q0_0), .second, .val (.long q0_1), .second, .val (.long q0_2), .second, .val (.long q0_3), .second, .val (.int p0_4), .val (.long (own_v0_0 q0_0)), .second, .val (.long (own_v0_1 q0_0)), .second, .val (.long (own_v0_2 q0_1)), .second, .val (.long (own_v0_3 q0_1)), .second, .val (.long (own_v0_4 q0_2)), .second, .val (.long (own_v0_5 q0_2)), .second, .val (.int (p0_4 &&& (3 : Int32))), .unset, .unset, .unset, .unset, .unset, .unset, .unset, .unset, .unset, .unset, .unset, .unset, .unset, .unset] [(.int (p0_4 &&& (3 : Int32)))])) _
          refine XS.iconst Xk0_6.here hx rfl (hb hby at_113) ?_
          show Steps p.tables e below (Tk0_6.setTop (mkF m 114 #[.val (.long q0_0), .second, .val (.long q0_1), .second, .val (.long q0_2), .second, .val (.long q0_3), .second, .val (.int p0_4), .val (.long (own_v0_0 q0_0)), .second, .val (.long (own_v0_1 q0_0)), .second, .val (.long (own_v0_2 q0_1)), .second, .val (.long (own_v0_3 q0_1)), .second, .val (.long (own_v0_4 q0_2)), .second, .val (.long (own_v0_5 q0_2)), .second, .val (.int (p0_4 &&& (3 : Int32))), .unset, .unset, .unset, .unset, .unset, .unset, .unset, .unset, .unset, .unset, .unset, .unset, .unset, .unset] [(.int (2 : Int32)), (.int (p0_4 &&& (3 : Int32)))])) _
          refine stj0_11 _ ?_
          exact kt
      refine ⟨_, _, Xj0_10, Nj0_10, ej0_10, fun target kt => ?_⟩
      rw [(show (own_j0_16 q0_0 q0_1 q0_2 q0_3 p0_4) = (own_j0_14 q0_0 q0_1 q0_2 p0_4) from if_neg hj0_7), (show (own_j0_17 q0_0 q0_1 q0_2 q0_3 p0_4) = (own_j0_15 q0_0 q0_1 q0_2 p0_4) from if_neg hj0_7)] at kt
      show Steps p.tables e below (Tk0_6.setTop (mkF m 67 #[.val (.long q0_0), .second, .val (.long q0_1), .second, .val (.long q0_2), .second, .val (.long q0_3), .second, .val (.int p0_4), .val (.long (own_v0_0 q0_0)), .second, .val (.long (own_v0_1 q0_0)), .second, .val (.long (own_v0_2 q0_1)), .second, .val (.long (own_v0_3 q0_1)), .second, .val (.long (own_v0_4 q0_2)), .second, .val (.long (own_v0_5 q0_2)), .second, .val (.int (p0_4 &&& (3 : Int32))), .unset, .unset, .unset, .unset, .unset, .unset, .unset, .unset, .unset, .unset, .unset, .unset, .unset, .unset] [(.int (p0_4 &&& (3 : Int32)))])) _
      refine XS.ifYes Xk0_6.here hx rfl (pc0 := 67) (pc' := 94) rfl (hb hby at_67) rfl (XT.i0_ne_t hj0_7) (by decide) (by decide) ?_
      show Steps p.tables e below (Tk0_6.setTop (mkF m 94 #[.val (.long q0_0), .second, .val (.long q0_1), .second, .val (.long q0_2), .second, .val (.long q0_3), .second, .val (.int p0_4), .val (.long (own_v0_0 q0_0)), .second, .val (.long (own_v0_1 q0_0)), .second, .val (.long (own_v0_2 q0_1)), .second, .val (.long (own_v0_3 q0_1)), .second, .val (.long (own_v0_4 q0_2)), .second, .val (.long (own_v0_5 q0_2)), .second, .val (.int (p0_4 &&& (3 : Int32))), .unset, .unset, .unset, .unset, .unset, .unset, .unset, .unset, .unset, .unset, .unset, .unset, .unset, .unset] [])) _
      refine XS.iload Xk0_6.here hx rfl (hb hby at_94) rfl ?_
      show Steps p.tables e below (Tk0_6.setTop (mkF m 96 #[.val (.long q0_0), .second, .val (.long q0_1), .second, .val (.long q0_2), .second, .val (.long q0_3), .second, .val (.int p0_4), .val (.long (own_v0_0 q0_0)), .second, .val (.long (own_v0_1 q0_0)), .second, .val (.long (own_v0_2 q0_1)), .second, .val (.long (own_v0_3 q0_1)), .second, .val (.long (own_v0_4 q0_2)), .second, .val (.long (own_v0_5 q0_2)), .second, .val (.int (p0_4 &&& (3 : Int32))), .unset, .unset, .unset, .unset, .unset, .unset, .unset, .unset, .unset, .unset, .unset, .unset, .unset, .unset] [(.int (p0_4 &&& (3 : Int32)))])) _
      refine XS.iconst Xk0_6.here hx rfl (hb hby at_96) ?_
      show Steps p.tables e below (Tk0_6.setTop (mkF m 97 #[.val (.long q0_0), .second, .val (.long q0_1), .second, .val (.long q0_2), .second, .val (.long q0_3), .second, .val (.int p0_4), .val (.long (own_v0_0 q0_0)), .second, .val (.long (own_v0_1 q0_0)), .second, .val (.long (own_v0_2 q0_1)), .second, .val (.long (own_v0_3 q0_1)), .second, .val (.long (own_v0_4 q0_2)), .second, .val (.long (own_v0_5 q0_2)), .second, .val (.int (p0_4 &&& (3 : Int32))), .unset, .unset, .unset, .unset, .unset, .unset, .unset, .unset, .unset, .unset, .unset, .unset, .unset, .unset] [(.int (1 : Int32)), (.int (p0_4 &&& (3 : Int32)))])) _
      refine stj0_10 _ ?_
      exact kt
  obtain ⟨_, _, ⟨Tk0_12, Lk0_12, kk0_12, nk0_12⟩, -, Xk0_12, ⟨Lck0_12, hQk0_12, lk0_12, yk0_12, zk0_12⟩, stk0_12⟩ := Jvm.LawKit.callS Xj0_7 hx (y := (⟨"com/example/wideberth/wideberth/maximin/TriangleContainsPinLaw", "cross", "(JJJJJJ)J"⟩ : MethodName)) hown (mvT hZ (hw _ (List.mem_of_getElem? (i := 4) rfl))) (mvT hZ (hw _ (List.mem_of_getElem? (i := 5) rfl))) (mvT hZ (hw _ (List.mem_of_getElem? (i := 2) rfl))) (mvT hZ (hw _ (List.mem_of_getElem? (i := 6) rfl))) (by decide) (backOf (W := 0) (own_rm2 l Z a0 hw [] (own_v0_0 q0_0) (own_v0_1 q0_0) (own_v0_2 q0_1) (own_v0_3 q0_1) (own_v0_4 q0_2) (own_v0_5 q0_2) h0 n0 Z0) hZ (hw _ (List.mem_of_getElem? (i := 6) rfl)) (hw _ (List.mem_of_getElem? (i := 2) rfl)) (by decide) (by decide)) (g := (mkF m 172 #[.val (.long q0_0), .second, .val (.long q0_1), .second, .val (.long q0_2), .second, .val (.long q0_3), .second, .val (.int p0_4), .val (.long (own_v0_0 q0_0)), .second, .val (.long (own_v0_1 q0_0)), .second, .val (.long (own_v0_2 q0_1)), .second, .val (.long (own_v0_3 q0_1)), .second, .val (.long (own_v0_4 q0_2)), .second, .val (.long (own_v0_5 q0_2)), .second, .val (.int (p0_4 &&& (3 : Int32))), .val (.long (own_j0_16 q0_0 q0_1 q0_2 q0_3 p0_4)), .second, .val (.long (own_j0_17 q0_0 q0_1 q0_2 q0_3 p0_4)), .second, .unset, .unset, .unset, .unset, .unset, .unset, .unset, .unset, .unset, .unset] [(.long (own_v0_5 q0_2)), (.long (own_v0_4 q0_2)), (.long (own_v0_3 q0_1)), (.long (own_v0_2 q0_1)), (.long (own_v0_1 q0_0)), (.long (own_v0_0 q0_0))])) rfl (by rw [hml]; rfl) (argsL := [(.long (own_v0_0 q0_0)), (.long (own_v0_1 q0_0)), (.long (own_v0_2 q0_1)), (.long (own_v0_3 q0_1)), (.long (own_v0_4 q0_2)), (.long (own_v0_5 q0_2))]) (rest := []) (lenOf own_pd2 rfl) rfl (by show 2 * 0 + _ ≤ _; exact Nat.le_of_eq rfl) (hb hby at_172) (fun _ _ => ⟨rfl, ej0_7, (by decide : 0 + 0 ≤ _), (by decide : 0 + 0 ≤ _)⟩)
  dsimp only [Pt.U, Pt.locs, Pt.cells, Pt.slots] at Xk0_12 lk0_12 yk0_12 zk0_12 stk0_12 hQk0_12
  subst lk0_12 yk0_12 zk0_12
  obtain ⟨rfl, Nk0_12q, ek0_12⟩ := hQk0_12
  have Nk0_12 := Fr.app Nj0_7 Nk0_12q
  have Ks0_13 : ∀ t, Steps p.tables e below (Tk0_12.setTop (mkF m 181 #[.val (.long q0_0), .second, .val (.long q0_1), .second, .val (.long q0_2), .second, .val (.long q0_3), .second, .val (.int p0_4), .val (.long (own_v0_0 q0_0)), .second, .val (.long (own_v0_1 q0_0)), .second, .val (.long (own_v0_2 q0_1)), .second, .val (.long (own_v0_3 q0_1)), .second, .val (.long (own_v0_4 q0_2)), .second, .val (.long (own_v0_5 q0_2)), .second, .val (.int (p0_4 &&& (3 : Int32))), .val (.long (own_j0_16 q0_0 q0_1 q0_2 q0_3 p0_4)), .second, .val (.long (own_j0_17 q0_0 q0_1 q0_2 q0_3 p0_4)), .second, .val (.long (own_v0_18 q0_0 q0_1 q0_2)), .second, .unset, .unset, .unset, .unset, .unset, .unset, .unset, .unset] [(.int (XT.cmpL (own_v0_18 q0_0 q0_1 q0_2) (0 : Int64)))])) t → Steps p.tables e below (s₁.setTop (mkF m 0 #[.val (.long q0_0), .second, .val (.long q0_1), .second, .val (.long q0_2), .second, .val (.long q0_3), .second, .val (.int p0_4), .unset, .unset, .unset, .unset, .unset, .unset, .unset, .unset, .unset, .unset, .unset, .unset, .unset, .unset, .unset, .unset, .unset, .unset, .unset, .unset, .unset, .unset, .unset, .unset, .unset, .unset, .unset] [])) t := by
    intro t kt
    show Steps p.tables e below (s₁.setTop (mkF m 0 #[.val (.long q0_0), .second, .val (.long q0_1), .second, .val (.long q0_2), .second, .val (.long q0_3), .second, .val (.int p0_4), .unset, .unset, .unset, .unset, .unset, .unset, .unset, .unset, .unset, .unset, .unset, .unset, .unset, .unset, .unset, .unset, .unset, .unset, .unset, .unset, .unset, .unset, .unset, .unset, .unset, .unset, .unset] [])) _
    refine XT.lloadN X0.here hx rfl (hb hby at_0) rfl ?_
    show Steps p.tables e below (s₁.setTop (mkF m 1 #[.val (.long q0_0), .second, .val (.long q0_1), .second, .val (.long q0_2), .second, .val (.long q0_3), .second, .val (.int p0_4), .unset, .unset, .unset, .unset, .unset, .unset, .unset, .unset, .unset, .unset, .unset, .unset, .unset, .unset, .unset, .unset, .unset, .unset, .unset, .unset, .unset, .unset, .unset, .unset, .unset, .unset, .unset] [(.long q0_0)])) _
    refine XT.l2i X0.here hx rfl (hb hby at_1) rfl ?_
    show Steps p.tables e below (s₁.setTop (mkF m 2 #[.val (.long q0_0), .second, .val (.long q0_1), .second, .val (.long q0_2), .second, .val (.long q0_3), .second, .val (.int p0_4), .unset, .unset, .unset, .unset, .unset, .unset, .unset, .unset, .unset, .unset, .unset, .unset, .unset, .unset, .unset, .unset, .unset, .unset, .unset, .unset, .unset, .unset, .unset, .unset, .unset, .unset, .unset] [(.int q0_0.toInt32)])) _
    refine stk0_1 _ ?_
    show Steps p.tables e below (Tk0_1.setTop (mkF m 5 #[.val (.long q0_0), .second, .val (.long q0_1), .second, .val (.long q0_2), .second, .val (.long q0_3), .second, .val (.int p0_4), .unset, .unset, .unset, .unset, .unset, .unset, .unset, .unset, .unset, .unset, .unset, .unset, .unset, .unset, .unset, .unset, .unset, .unset, .unset, .unset, .unset, .unset, .unset, .unset, .unset, .unset, .unset] [(.int (own_r1_0 q0_0.toInt32))])) _
    refine XT.i2l Xk0_1.here hx rfl (hb hby at_5) rfl ?_
    show Steps p.tables e below (Tk0_1.setTop (mkF m 6 #[.val (.long q0_0), .second, .val (.long q0_1), .second, .val (.long q0_2), .second, .val (.long q0_3), .second, .val (.int p0_4), .unset, .unset, .unset, .unset, .unset, .unset, .unset, .unset, .unset, .unset, .unset, .unset, .unset, .unset, .unset, .unset, .unset, .unset, .unset, .unset, .unset, .unset, .unset, .unset, .unset, .unset, .unset] [(.long (own_r1_0 q0_0.toInt32).toInt64)])) _
    refine XT.lstore Xk0_1.here hx rfl (hb hby at_6) rfl (l' := #[.val (.long q0_0), .second, .val (.long q0_1), .second, .val (.long q0_2), .second, .val (.long q0_3), .second, .val (.int p0_4), .val (.long (own_v0_0 q0_0)), .second, .unset, .unset, .unset, .unset, .unset, .unset, .unset, .unset, .unset, .unset, .unset, .unset, .unset, .unset, .unset, .unset, .unset, .unset, .unset, .unset, .unset, .unset, .unset, .unset, .unset]) rfl ?_
    show Steps p.tables e below (Tk0_1.setTop (mkF m 8 #[.val (.long q0_0), .second, .val (.long q0_1), .second, .val (.long q0_2), .second, .val (.long q0_3), .second, .val (.int p0_4), .val (.long (own_v0_0 q0_0)), .second, .unset, .unset, .unset, .unset, .unset, .unset, .unset, .unset, .unset, .unset, .unset, .unset, .unset, .unset, .unset, .unset, .unset, .unset, .unset, .unset, .unset, .unset, .unset, .unset, .unset] [])) _
    refine XT.lloadN Xk0_1.here hx rfl (hb hby at_8) rfl ?_
    show Steps p.tables e below (Tk0_1.setTop (mkF m 9 #[.val (.long q0_0), .second, .val (.long q0_1), .second, .val (.long q0_2), .second, .val (.long q0_3), .second, .val (.int p0_4), .val (.long (own_v0_0 q0_0)), .second, .unset, .unset, .unset, .unset, .unset, .unset, .unset, .unset, .unset, .unset, .unset, .unset, .unset, .unset, .unset, .unset, .unset, .unset, .unset, .unset, .unset, .unset, .unset, .unset, .unset] [(.long q0_0)])) _
    refine XS.bipush Xk0_1.here hx rfl (hb hby at_9) ?_
    show Steps p.tables e below (Tk0_1.setTop (mkF m 11 #[.val (.long q0_0), .second, .val (.long q0_1), .second, .val (.long q0_2), .second, .val (.long q0_3), .second, .val (.int p0_4), .val (.long (own_v0_0 q0_0)), .second, .unset, .unset, .unset, .unset, .unset, .unset, .unset, .unset, .unset, .unset, .unset, .unset, .unset, .unset, .unset, .unset, .unset, .unset, .unset, .unset, .unset, .unset, .unset, .unset, .unset] [(.int (32 : Int32)), (.long q0_0)])) _
    refine XT.lushr Xk0_1.here hx rfl (hb hby at_11) rfl ?_
    show Steps p.tables e below (Tk0_1.setTop (mkF m 12 #[.val (.long q0_0), .second, .val (.long q0_1), .second, .val (.long q0_2), .second, .val (.long q0_3), .second, .val (.int p0_4), .val (.long (own_v0_0 q0_0)), .second, .unset, .unset, .unset, .unset, .unset, .unset, .unset, .unset, .unset, .unset, .unset, .unset, .unset, .unset, .unset, .unset, .unset, .unset, .unset, .unset, .unset, .unset, .unset, .unset, .unset] [(.long (XT.ushrL q0_0 (32 : Int32)))])) _
    refine XT.l2i Xk0_1.here hx rfl (hb hby at_12) rfl ?_
    show Steps p.tables e below (Tk0_1.setTop (mkF m 13 #[.val (.long q0_0), .second, .val (.long q0_1), .second, .val (.long q0_2), .second, .val (.long q0_3), .second, .val (.int p0_4), .val (.long (own_v0_0 q0_0)), .second, .unset, .unset, .unset, .unset, .unset, .unset, .unset, .unset, .unset, .unset, .unset, .unset, .unset, .unset, .unset, .unset, .unset, .unset, .unset, .unset, .unset, .unset, .unset, .unset, .unset] [(.int (XT.ushrL q0_0 (32 : Int32)).toInt32)])) _
    refine stk0_2 _ ?_
    show Steps p.tables e below (Tk0_2.setTop (mkF m 16 #[.val (.long q0_0), .second, .val (.long q0_1), .second, .val (.long q0_2), .second, .val (.long q0_3), .second, .val (.int p0_4), .val (.long (own_v0_0 q0_0)), .second, .unset, .unset, .unset, .unset, .unset, .unset, .unset, .unset, .unset, .unset, .unset, .unset, .unset, .unset, .unset, .unset, .unset, .unset, .unset, .unset, .unset, .unset, .unset, .unset, .unset] [(.int (own_r1_0 (XT.ushrL q0_0 (32 : Int32)).toInt32))])) _
    refine XT.i2l Xk0_2.here hx rfl (hb hby at_16) rfl ?_
    show Steps p.tables e below (Tk0_2.setTop (mkF m 17 #[.val (.long q0_0), .second, .val (.long q0_1), .second, .val (.long q0_2), .second, .val (.long q0_3), .second, .val (.int p0_4), .val (.long (own_v0_0 q0_0)), .second, .unset, .unset, .unset, .unset, .unset, .unset, .unset, .unset, .unset, .unset, .unset, .unset, .unset, .unset, .unset, .unset, .unset, .unset, .unset, .unset, .unset, .unset, .unset, .unset, .unset] [(.long (own_r1_0 (XT.ushrL q0_0 (32 : Int32)).toInt32).toInt64)])) _
    refine XT.lstore Xk0_2.here hx rfl (hb hby at_17) rfl (l' := #[.val (.long q0_0), .second, .val (.long q0_1), .second, .val (.long q0_2), .second, .val (.long q0_3), .second, .val (.int p0_4), .val (.long (own_v0_0 q0_0)), .second, .val (.long (own_v0_1 q0_0)), .second, .unset, .unset, .unset, .unset, .unset, .unset, .unset, .unset, .unset, .unset, .unset, .unset, .unset, .unset, .unset, .unset, .unset, .unset, .unset, .unset, .unset, .unset, .unset]) rfl ?_
    show Steps p.tables e below (Tk0_2.setTop (mkF m 19 #[.val (.long q0_0), .second, .val (.long q0_1), .second, .val (.long q0_2), .second, .val (.long q0_3), .second, .val (.int p0_4), .val (.long (own_v0_0 q0_0)), .second, .val (.long (own_v0_1 q0_0)), .second, .unset, .unset, .unset, .unset, .unset, .unset, .unset, .unset, .unset, .unset, .unset, .unset, .unset, .unset, .unset, .unset, .unset, .unset, .unset, .unset, .unset, .unset, .unset] [])) _
    refine XT.lloadN Xk0_2.here hx rfl (hb hby at_19) rfl ?_
    show Steps p.tables e below (Tk0_2.setTop (mkF m 20 #[.val (.long q0_0), .second, .val (.long q0_1), .second, .val (.long q0_2), .second, .val (.long q0_3), .second, .val (.int p0_4), .val (.long (own_v0_0 q0_0)), .second, .val (.long (own_v0_1 q0_0)), .second, .unset, .unset, .unset, .unset, .unset, .unset, .unset, .unset, .unset, .unset, .unset, .unset, .unset, .unset, .unset, .unset, .unset, .unset, .unset, .unset, .unset, .unset, .unset] [(.long q0_1)])) _
    refine XT.l2i Xk0_2.here hx rfl (hb hby at_20) rfl ?_
    show Steps p.tables e below (Tk0_2.setTop (mkF m 21 #[.val (.long q0_0), .second, .val (.long q0_1), .second, .val (.long q0_2), .second, .val (.long q0_3), .second, .val (.int p0_4), .val (.long (own_v0_0 q0_0)), .second, .val (.long (own_v0_1 q0_0)), .second, .unset, .unset, .unset, .unset, .unset, .unset, .unset, .unset, .unset, .unset, .unset, .unset, .unset, .unset, .unset, .unset, .unset, .unset, .unset, .unset, .unset, .unset, .unset] [(.int q0_1.toInt32)])) _
    refine stk0_3 _ ?_
    show Steps p.tables e below (Tk0_3.setTop (mkF m 24 #[.val (.long q0_0), .second, .val (.long q0_1), .second, .val (.long q0_2), .second, .val (.long q0_3), .second, .val (.int p0_4), .val (.long (own_v0_0 q0_0)), .second, .val (.long (own_v0_1 q0_0)), .second, .unset, .unset, .unset, .unset, .unset, .unset, .unset, .unset, .unset, .unset, .unset, .unset, .unset, .unset, .unset, .unset, .unset, .unset, .unset, .unset, .unset, .unset, .unset] [(.int (own_r1_0 q0_1.toInt32))])) _
    refine XT.i2l Xk0_3.here hx rfl (hb hby at_24) rfl ?_
    show Steps p.tables e below (Tk0_3.setTop (mkF m 25 #[.val (.long q0_0), .second, .val (.long q0_1), .second, .val (.long q0_2), .second, .val (.long q0_3), .second, .val (.int p0_4), .val (.long (own_v0_0 q0_0)), .second, .val (.long (own_v0_1 q0_0)), .second, .unset, .unset, .unset, .unset, .unset, .unset, .unset, .unset, .unset, .unset, .unset, .unset, .unset, .unset, .unset, .unset, .unset, .unset, .unset, .unset, .unset, .unset, .unset] [(.long (own_r1_0 q0_1.toInt32).toInt64)])) _
    refine XT.lstore Xk0_3.here hx rfl (hb hby at_25) rfl (l' := #[.val (.long q0_0), .second, .val (.long q0_1), .second, .val (.long q0_2), .second, .val (.long q0_3), .second, .val (.int p0_4), .val (.long (own_v0_0 q0_0)), .second, .val (.long (own_v0_1 q0_0)), .second, .val (.long (own_v0_2 q0_1)), .second, .unset, .unset, .unset, .unset, .unset, .unset, .unset, .unset, .unset, .unset, .unset, .unset, .unset, .unset, .unset, .unset, .unset, .unset, .unset, .unset, .unset]) rfl ?_
    show Steps p.tables e below (Tk0_3.setTop (mkF m 27 #[.val (.long q0_0), .second, .val (.long q0_1), .second, .val (.long q0_2), .second, .val (.long q0_3), .second, .val (.int p0_4), .val (.long (own_v0_0 q0_0)), .second, .val (.long (own_v0_1 q0_0)), .second, .val (.long (own_v0_2 q0_1)), .second, .unset, .unset, .unset, .unset, .unset, .unset, .unset, .unset, .unset, .unset, .unset, .unset, .unset, .unset, .unset, .unset, .unset, .unset, .unset, .unset, .unset] [])) _
    refine XT.lloadN Xk0_3.here hx rfl (hb hby at_27) rfl ?_
    show Steps p.tables e below (Tk0_3.setTop (mkF m 28 #[.val (.long q0_0), .second, .val (.long q0_1), .second, .val (.long q0_2), .second, .val (.long q0_3), .second, .val (.int p0_4), .val (.long (own_v0_0 q0_0)), .second, .val (.long (own_v0_1 q0_0)), .second, .val (.long (own_v0_2 q0_1)), .second, .unset, .unset, .unset, .unset, .unset, .unset, .unset, .unset, .unset, .unset, .unset, .unset, .unset, .unset, .unset, .unset, .unset, .unset, .unset, .unset, .unset] [(.long q0_1)])) _
    refine XS.bipush Xk0_3.here hx rfl (hb hby at_28) ?_
    show Steps p.tables e below (Tk0_3.setTop (mkF m 30 #[.val (.long q0_0), .second, .val (.long q0_1), .second, .val (.long q0_2), .second, .val (.long q0_3), .second, .val (.int p0_4), .val (.long (own_v0_0 q0_0)), .second, .val (.long (own_v0_1 q0_0)), .second, .val (.long (own_v0_2 q0_1)), .second, .unset, .unset, .unset, .unset, .unset, .unset, .unset, .unset, .unset, .unset, .unset, .unset, .unset, .unset, .unset, .unset, .unset, .unset, .unset, .unset, .unset] [(.int (32 : Int32)), (.long q0_1)])) _
    refine XT.lushr Xk0_3.here hx rfl (hb hby at_30) rfl ?_
    show Steps p.tables e below (Tk0_3.setTop (mkF m 31 #[.val (.long q0_0), .second, .val (.long q0_1), .second, .val (.long q0_2), .second, .val (.long q0_3), .second, .val (.int p0_4), .val (.long (own_v0_0 q0_0)), .second, .val (.long (own_v0_1 q0_0)), .second, .val (.long (own_v0_2 q0_1)), .second, .unset, .unset, .unset, .unset, .unset, .unset, .unset, .unset, .unset, .unset, .unset, .unset, .unset, .unset, .unset, .unset, .unset, .unset, .unset, .unset, .unset] [(.long (XT.ushrL q0_1 (32 : Int32)))])) _
    refine XT.l2i Xk0_3.here hx rfl (hb hby at_31) rfl ?_
    show Steps p.tables e below (Tk0_3.setTop (mkF m 32 #[.val (.long q0_0), .second, .val (.long q0_1), .second, .val (.long q0_2), .second, .val (.long q0_3), .second, .val (.int p0_4), .val (.long (own_v0_0 q0_0)), .second, .val (.long (own_v0_1 q0_0)), .second, .val (.long (own_v0_2 q0_1)), .second, .unset, .unset, .unset, .unset, .unset, .unset, .unset, .unset, .unset, .unset, .unset, .unset, .unset, .unset, .unset, .unset, .unset, .unset, .unset, .unset, .unset] [(.int (XT.ushrL q0_1 (32 : Int32)).toInt32)])) _
    refine stk0_4 _ ?_
    show Steps p.tables e below (Tk0_4.setTop (mkF m 35 #[.val (.long q0_0), .second, .val (.long q0_1), .second, .val (.long q0_2), .second, .val (.long q0_3), .second, .val (.int p0_4), .val (.long (own_v0_0 q0_0)), .second, .val (.long (own_v0_1 q0_0)), .second, .val (.long (own_v0_2 q0_1)), .second, .unset, .unset, .unset, .unset, .unset, .unset, .unset, .unset, .unset, .unset, .unset, .unset, .unset, .unset, .unset, .unset, .unset, .unset, .unset, .unset, .unset] [(.int (own_r1_0 (XT.ushrL q0_1 (32 : Int32)).toInt32))])) _
    refine XT.i2l Xk0_4.here hx rfl (hb hby at_35) rfl ?_
    show Steps p.tables e below (Tk0_4.setTop (mkF m 36 #[.val (.long q0_0), .second, .val (.long q0_1), .second, .val (.long q0_2), .second, .val (.long q0_3), .second, .val (.int p0_4), .val (.long (own_v0_0 q0_0)), .second, .val (.long (own_v0_1 q0_0)), .second, .val (.long (own_v0_2 q0_1)), .second, .unset, .unset, .unset, .unset, .unset, .unset, .unset, .unset, .unset, .unset, .unset, .unset, .unset, .unset, .unset, .unset, .unset, .unset, .unset, .unset, .unset] [(.long (own_r1_0 (XT.ushrL q0_1 (32 : Int32)).toInt32).toInt64)])) _
    refine XT.lstore Xk0_4.here hx rfl (hb hby at_36) rfl (l' := #[.val (.long q0_0), .second, .val (.long q0_1), .second, .val (.long q0_2), .second, .val (.long q0_3), .second, .val (.int p0_4), .val (.long (own_v0_0 q0_0)), .second, .val (.long (own_v0_1 q0_0)), .second, .val (.long (own_v0_2 q0_1)), .second, .val (.long (own_v0_3 q0_1)), .second, .unset, .unset, .unset, .unset, .unset, .unset, .unset, .unset, .unset, .unset, .unset, .unset, .unset, .unset, .unset, .unset, .unset, .unset, .unset]) rfl ?_
    show Steps p.tables e below (Tk0_4.setTop (mkF m 38 #[.val (.long q0_0), .second, .val (.long q0_1), .second, .val (.long q0_2), .second, .val (.long q0_3), .second, .val (.int p0_4), .val (.long (own_v0_0 q0_0)), .second, .val (.long (own_v0_1 q0_0)), .second, .val (.long (own_v0_2 q0_1)), .second, .val (.long (own_v0_3 q0_1)), .second, .unset, .unset, .unset, .unset, .unset, .unset, .unset, .unset, .unset, .unset, .unset, .unset, .unset, .unset, .unset, .unset, .unset, .unset, .unset] [])) _
    refine XT.lload Xk0_4.here hx rfl (hb hby at_38) rfl ?_
    show Steps p.tables e below (Tk0_4.setTop (mkF m 40 #[.val (.long q0_0), .second, .val (.long q0_1), .second, .val (.long q0_2), .second, .val (.long q0_3), .second, .val (.int p0_4), .val (.long (own_v0_0 q0_0)), .second, .val (.long (own_v0_1 q0_0)), .second, .val (.long (own_v0_2 q0_1)), .second, .val (.long (own_v0_3 q0_1)), .second, .unset, .unset, .unset, .unset, .unset, .unset, .unset, .unset, .unset, .unset, .unset, .unset, .unset, .unset, .unset, .unset, .unset, .unset, .unset] [(.long q0_2)])) _
    refine XT.l2i Xk0_4.here hx rfl (hb hby at_40) rfl ?_
    show Steps p.tables e below (Tk0_4.setTop (mkF m 41 #[.val (.long q0_0), .second, .val (.long q0_1), .second, .val (.long q0_2), .second, .val (.long q0_3), .second, .val (.int p0_4), .val (.long (own_v0_0 q0_0)), .second, .val (.long (own_v0_1 q0_0)), .second, .val (.long (own_v0_2 q0_1)), .second, .val (.long (own_v0_3 q0_1)), .second, .unset, .unset, .unset, .unset, .unset, .unset, .unset, .unset, .unset, .unset, .unset, .unset, .unset, .unset, .unset, .unset, .unset, .unset, .unset] [(.int q0_2.toInt32)])) _
    refine stk0_5 _ ?_
    show Steps p.tables e below (Tk0_5.setTop (mkF m 44 #[.val (.long q0_0), .second, .val (.long q0_1), .second, .val (.long q0_2), .second, .val (.long q0_3), .second, .val (.int p0_4), .val (.long (own_v0_0 q0_0)), .second, .val (.long (own_v0_1 q0_0)), .second, .val (.long (own_v0_2 q0_1)), .second, .val (.long (own_v0_3 q0_1)), .second, .unset, .unset, .unset, .unset, .unset, .unset, .unset, .unset, .unset, .unset, .unset, .unset, .unset, .unset, .unset, .unset, .unset, .unset, .unset] [(.int (own_r1_0 q0_2.toInt32))])) _
    refine XT.i2l Xk0_5.here hx rfl (hb hby at_44) rfl ?_
    show Steps p.tables e below (Tk0_5.setTop (mkF m 45 #[.val (.long q0_0), .second, .val (.long q0_1), .second, .val (.long q0_2), .second, .val (.long q0_3), .second, .val (.int p0_4), .val (.long (own_v0_0 q0_0)), .second, .val (.long (own_v0_1 q0_0)), .second, .val (.long (own_v0_2 q0_1)), .second, .val (.long (own_v0_3 q0_1)), .second, .unset, .unset, .unset, .unset, .unset, .unset, .unset, .unset, .unset, .unset, .unset, .unset, .unset, .unset, .unset, .unset, .unset, .unset, .unset] [(.long (own_r1_0 q0_2.toInt32).toInt64)])) _
    refine XT.lstore Xk0_5.here hx rfl (hb hby at_45) rfl (l' := #[.val (.long q0_0), .second, .val (.long q0_1), .second, .val (.long q0_2), .second, .val (.long q0_3), .second, .val (.int p0_4), .val (.long (own_v0_0 q0_0)), .second, .val (.long (own_v0_1 q0_0)), .second, .val (.long (own_v0_2 q0_1)), .second, .val (.long (own_v0_3 q0_1)), .second, .val (.long (own_v0_4 q0_2)), .second, .unset, .unset, .unset, .unset, .unset, .unset, .unset, .unset, .unset, .unset, .unset, .unset, .unset, .unset, .unset, .unset, .unset]) rfl ?_
    show Steps p.tables e below (Tk0_5.setTop (mkF m 47 #[.val (.long q0_0), .second, .val (.long q0_1), .second, .val (.long q0_2), .second, .val (.long q0_3), .second, .val (.int p0_4), .val (.long (own_v0_0 q0_0)), .second, .val (.long (own_v0_1 q0_0)), .second, .val (.long (own_v0_2 q0_1)), .second, .val (.long (own_v0_3 q0_1)), .second, .val (.long (own_v0_4 q0_2)), .second, .unset, .unset, .unset, .unset, .unset, .unset, .unset, .unset, .unset, .unset, .unset, .unset, .unset, .unset, .unset, .unset, .unset] [])) _
    refine XT.lload Xk0_5.here hx rfl (hb hby at_47) rfl ?_
    show Steps p.tables e below (Tk0_5.setTop (mkF m 49 #[.val (.long q0_0), .second, .val (.long q0_1), .second, .val (.long q0_2), .second, .val (.long q0_3), .second, .val (.int p0_4), .val (.long (own_v0_0 q0_0)), .second, .val (.long (own_v0_1 q0_0)), .second, .val (.long (own_v0_2 q0_1)), .second, .val (.long (own_v0_3 q0_1)), .second, .val (.long (own_v0_4 q0_2)), .second, .unset, .unset, .unset, .unset, .unset, .unset, .unset, .unset, .unset, .unset, .unset, .unset, .unset, .unset, .unset, .unset, .unset] [(.long q0_2)])) _
    refine XS.bipush Xk0_5.here hx rfl (hb hby at_49) ?_
    show Steps p.tables e below (Tk0_5.setTop (mkF m 51 #[.val (.long q0_0), .second, .val (.long q0_1), .second, .val (.long q0_2), .second, .val (.long q0_3), .second, .val (.int p0_4), .val (.long (own_v0_0 q0_0)), .second, .val (.long (own_v0_1 q0_0)), .second, .val (.long (own_v0_2 q0_1)), .second, .val (.long (own_v0_3 q0_1)), .second, .val (.long (own_v0_4 q0_2)), .second, .unset, .unset, .unset, .unset, .unset, .unset, .unset, .unset, .unset, .unset, .unset, .unset, .unset, .unset, .unset, .unset, .unset] [(.int (32 : Int32)), (.long q0_2)])) _
    refine XT.lushr Xk0_5.here hx rfl (hb hby at_51) rfl ?_
    show Steps p.tables e below (Tk0_5.setTop (mkF m 52 #[.val (.long q0_0), .second, .val (.long q0_1), .second, .val (.long q0_2), .second, .val (.long q0_3), .second, .val (.int p0_4), .val (.long (own_v0_0 q0_0)), .second, .val (.long (own_v0_1 q0_0)), .second, .val (.long (own_v0_2 q0_1)), .second, .val (.long (own_v0_3 q0_1)), .second, .val (.long (own_v0_4 q0_2)), .second, .unset, .unset, .unset, .unset, .unset, .unset, .unset, .unset, .unset, .unset, .unset, .unset, .unset, .unset, .unset, .unset, .unset] [(.long (XT.ushrL q0_2 (32 : Int32)))])) _
    refine XT.l2i Xk0_5.here hx rfl (hb hby at_52) rfl ?_
    show Steps p.tables e below (Tk0_5.setTop (mkF m 53 #[.val (.long q0_0), .second, .val (.long q0_1), .second, .val (.long q0_2), .second, .val (.long q0_3), .second, .val (.int p0_4), .val (.long (own_v0_0 q0_0)), .second, .val (.long (own_v0_1 q0_0)), .second, .val (.long (own_v0_2 q0_1)), .second, .val (.long (own_v0_3 q0_1)), .second, .val (.long (own_v0_4 q0_2)), .second, .unset, .unset, .unset, .unset, .unset, .unset, .unset, .unset, .unset, .unset, .unset, .unset, .unset, .unset, .unset, .unset, .unset] [(.int (XT.ushrL q0_2 (32 : Int32)).toInt32)])) _
    refine stk0_6 _ ?_
    show Steps p.tables e below (Tk0_6.setTop (mkF m 56 #[.val (.long q0_0), .second, .val (.long q0_1), .second, .val (.long q0_2), .second, .val (.long q0_3), .second, .val (.int p0_4), .val (.long (own_v0_0 q0_0)), .second, .val (.long (own_v0_1 q0_0)), .second, .val (.long (own_v0_2 q0_1)), .second, .val (.long (own_v0_3 q0_1)), .second, .val (.long (own_v0_4 q0_2)), .second, .unset, .unset, .unset, .unset, .unset, .unset, .unset, .unset, .unset, .unset, .unset, .unset, .unset, .unset, .unset, .unset, .unset] [(.int (own_r1_0 (XT.ushrL q0_2 (32 : Int32)).toInt32))])) _
    refine XT.i2l Xk0_6.here hx rfl (hb hby at_56) rfl ?_
    show Steps p.tables e below (Tk0_6.setTop (mkF m 57 #[.val (.long q0_0), .second, .val (.long q0_1), .second, .val (.long q0_2), .second, .val (.long q0_3), .second, .val (.int p0_4), .val (.long (own_v0_0 q0_0)), .second, .val (.long (own_v0_1 q0_0)), .second, .val (.long (own_v0_2 q0_1)), .second, .val (.long (own_v0_3 q0_1)), .second, .val (.long (own_v0_4 q0_2)), .second, .unset, .unset, .unset, .unset, .unset, .unset, .unset, .unset, .unset, .unset, .unset, .unset, .unset, .unset, .unset, .unset, .unset] [(.long (own_r1_0 (XT.ushrL q0_2 (32 : Int32)).toInt32).toInt64)])) _
    refine XT.lstore Xk0_6.here hx rfl (hb hby at_57) rfl (l' := #[.val (.long q0_0), .second, .val (.long q0_1), .second, .val (.long q0_2), .second, .val (.long q0_3), .second, .val (.int p0_4), .val (.long (own_v0_0 q0_0)), .second, .val (.long (own_v0_1 q0_0)), .second, .val (.long (own_v0_2 q0_1)), .second, .val (.long (own_v0_3 q0_1)), .second, .val (.long (own_v0_4 q0_2)), .second, .val (.long (own_v0_5 q0_2)), .second, .unset, .unset, .unset, .unset, .unset, .unset, .unset, .unset, .unset, .unset, .unset, .unset, .unset, .unset, .unset]) rfl ?_
    show Steps p.tables e below (Tk0_6.setTop (mkF m 59 #[.val (.long q0_0), .second, .val (.long q0_1), .second, .val (.long q0_2), .second, .val (.long q0_3), .second, .val (.int p0_4), .val (.long (own_v0_0 q0_0)), .second, .val (.long (own_v0_1 q0_0)), .second, .val (.long (own_v0_2 q0_1)), .second, .val (.long (own_v0_3 q0_1)), .second, .val (.long (own_v0_4 q0_2)), .second, .val (.long (own_v0_5 q0_2)), .second, .unset, .unset, .unset, .unset, .unset, .unset, .unset, .unset, .unset, .unset, .unset, .unset, .unset, .unset, .unset] [])) _
    refine XS.iload Xk0_6.here hx rfl (hb hby at_59) rfl ?_
    show Steps p.tables e below (Tk0_6.setTop (mkF m 61 #[.val (.long q0_0), .second, .val (.long q0_1), .second, .val (.long q0_2), .second, .val (.long q0_3), .second, .val (.int p0_4), .val (.long (own_v0_0 q0_0)), .second, .val (.long (own_v0_1 q0_0)), .second, .val (.long (own_v0_2 q0_1)), .second, .val (.long (own_v0_3 q0_1)), .second, .val (.long (own_v0_4 q0_2)), .second, .val (.long (own_v0_5 q0_2)), .second, .unset, .unset, .unset, .unset, .unset, .unset, .unset, .unset, .unset, .unset, .unset, .unset, .unset, .unset, .unset] [(.int p0_4)])) _
    refine XS.iconst Xk0_6.here hx rfl (hb hby at_61) ?_
    show Steps p.tables e below (Tk0_6.setTop (mkF m 62 #[.val (.long q0_0), .second, .val (.long q0_1), .second, .val (.long q0_2), .second, .val (.long q0_3), .second, .val (.int p0_4), .val (.long (own_v0_0 q0_0)), .second, .val (.long (own_v0_1 q0_0)), .second, .val (.long (own_v0_2 q0_1)), .second, .val (.long (own_v0_3 q0_1)), .second, .val (.long (own_v0_4 q0_2)), .second, .val (.long (own_v0_5 q0_2)), .second, .unset, .unset, .unset, .unset, .unset, .unset, .unset, .unset, .unset, .unset, .unset, .unset, .unset, .unset, .unset] [(.int (3 : Int32)), (.int p0_4)])) _
    refine XS.iand Xk0_6.here hx rfl (hb hby at_62) rfl ?_
    show Steps p.tables e below (Tk0_6.setTop (mkF m 63 #[.val (.long q0_0), .second, .val (.long q0_1), .second, .val (.long q0_2), .second, .val (.long q0_3), .second, .val (.int p0_4), .val (.long (own_v0_0 q0_0)), .second, .val (.long (own_v0_1 q0_0)), .second, .val (.long (own_v0_2 q0_1)), .second, .val (.long (own_v0_3 q0_1)), .second, .val (.long (own_v0_4 q0_2)), .second, .val (.long (own_v0_5 q0_2)), .second, .unset, .unset, .unset, .unset, .unset, .unset, .unset, .unset, .unset, .unset, .unset, .unset, .unset, .unset, .unset] [(.int (p0_4 &&& (3 : Int32)))])) _
    refine XS.istore Xk0_6.here hx rfl (hb hby at_63) rfl (l' := #[.val (.long q0_0), .second, .val (.long q0_1), .second, .val (.long q0_2), .second, .val (.long q0_3), .second, .val (.int p0_4), .val (.long (own_v0_0 q0_0)), .second, .val (.long (own_v0_1 q0_0)), .second, .val (.long (own_v0_2 q0_1)), .second, .val (.long (own_v0_3 q0_1)), .second, .val (.long (own_v0_4 q0_2)), .second, .val (.long (own_v0_5 q0_2)), .second, .val (.int (p0_4 &&& (3 : Int32))), .unset, .unset, .unset, .unset, .unset, .unset, .unset, .unset, .unset, .unset, .unset, .unset, .unset, .unset]) rfl ?_
    show Steps p.tables e below (Tk0_6.setTop (mkF m 65 #[.val (.long q0_0), .second, .val (.long q0_1), .second, .val (.long q0_2), .second, .val (.long q0_3), .second, .val (.int p0_4), .val (.long (own_v0_0 q0_0)), .second, .val (.long (own_v0_1 q0_0)), .second, .val (.long (own_v0_2 q0_1)), .second, .val (.long (own_v0_3 q0_1)), .second, .val (.long (own_v0_4 q0_2)), .second, .val (.long (own_v0_5 q0_2)), .second, .val (.int (p0_4 &&& (3 : Int32))), .unset, .unset, .unset, .unset, .unset, .unset, .unset, .unset, .unset, .unset, .unset, .unset, .unset, .unset] [])) _
    refine XS.iload Xk0_6.here hx rfl (hb hby at_65) rfl ?_
    show Steps p.tables e below (Tk0_6.setTop (mkF m 67 #[.val (.long q0_0), .second, .val (.long q0_1), .second, .val (.long q0_2), .second, .val (.long q0_3), .second, .val (.int p0_4), .val (.long (own_v0_0 q0_0)), .second, .val (.long (own_v0_1 q0_0)), .second, .val (.long (own_v0_2 q0_1)), .second, .val (.long (own_v0_3 q0_1)), .second, .val (.long (own_v0_4 q0_2)), .second, .val (.long (own_v0_5 q0_2)), .second, .val (.int (p0_4 &&& (3 : Int32))), .unset, .unset, .unset, .unset, .unset, .unset, .unset, .unset, .unset, .unset, .unset, .unset, .unset, .unset] [(.int (p0_4 &&& (3 : Int32)))])) _
    refine stj0_7 _ ?_
    show Steps p.tables e below (Tj0_7.setTop (mkF m 160 #[.val (.long q0_0), .second, .val (.long q0_1), .second, .val (.long q0_2), .second, .val (.long q0_3), .second, .val (.int p0_4), .val (.long (own_v0_0 q0_0)), .second, .val (.long (own_v0_1 q0_0)), .second, .val (.long (own_v0_2 q0_1)), .second, .val (.long (own_v0_3 q0_1)), .second, .val (.long (own_v0_4 q0_2)), .second, .val (.long (own_v0_5 q0_2)), .second, .val (.int (p0_4 &&& (3 : Int32))), .val (.long (own_j0_16 q0_0 q0_1 q0_2 q0_3 p0_4)), .second, .val (.long (own_j0_17 q0_0 q0_1 q0_2 q0_3 p0_4)), .second, .unset, .unset, .unset, .unset, .unset, .unset, .unset, .unset, .unset, .unset] [])) _
    refine XT.lload Xj0_7.here hx rfl (hb hby at_160) rfl ?_
    show Steps p.tables e below (Tj0_7.setTop (mkF m 162 #[.val (.long q0_0), .second, .val (.long q0_1), .second, .val (.long q0_2), .second, .val (.long q0_3), .second, .val (.int p0_4), .val (.long (own_v0_0 q0_0)), .second, .val (.long (own_v0_1 q0_0)), .second, .val (.long (own_v0_2 q0_1)), .second, .val (.long (own_v0_3 q0_1)), .second, .val (.long (own_v0_4 q0_2)), .second, .val (.long (own_v0_5 q0_2)), .second, .val (.int (p0_4 &&& (3 : Int32))), .val (.long (own_j0_16 q0_0 q0_1 q0_2 q0_3 p0_4)), .second, .val (.long (own_j0_17 q0_0 q0_1 q0_2 q0_3 p0_4)), .second, .unset, .unset, .unset, .unset, .unset, .unset, .unset, .unset, .unset, .unset] [(.long (own_v0_0 q0_0))])) _
    refine XT.lload Xj0_7.here hx rfl (hb hby at_162) rfl ?_
    show Steps p.tables e below (Tj0_7.setTop (mkF m 164 #[.val (.long q0_0), .second, .val (.long q0_1), .second, .val (.long q0_2), .second, .val (.long q0_3), .second, .val (.int p0_4), .val (.long (own_v0_0 q0_0)), .second, .val (.long (own_v0_1 q0_0)), .second, .val (.long (own_v0_2 q0_1)), .second, .val (.long (own_v0_3 q0_1)), .second, .val (.long (own_v0_4 q0_2)), .second, .val (.long (own_v0_5 q0_2)), .second, .val (.int (p0_4 &&& (3 : Int32))), .val (.long (own_j0_16 q0_0 q0_1 q0_2 q0_3 p0_4)), .second, .val (.long (own_j0_17 q0_0 q0_1 q0_2 q0_3 p0_4)), .second, .unset, .unset, .unset, .unset, .unset, .unset, .unset, .unset, .unset, .unset] [(.long (own_v0_1 q0_0)), (.long (own_v0_0 q0_0))])) _
    refine XT.lload Xj0_7.here hx rfl (hb hby at_164) rfl ?_
    show Steps p.tables e below (Tj0_7.setTop (mkF m 166 #[.val (.long q0_0), .second, .val (.long q0_1), .second, .val (.long q0_2), .second, .val (.long q0_3), .second, .val (.int p0_4), .val (.long (own_v0_0 q0_0)), .second, .val (.long (own_v0_1 q0_0)), .second, .val (.long (own_v0_2 q0_1)), .second, .val (.long (own_v0_3 q0_1)), .second, .val (.long (own_v0_4 q0_2)), .second, .val (.long (own_v0_5 q0_2)), .second, .val (.int (p0_4 &&& (3 : Int32))), .val (.long (own_j0_16 q0_0 q0_1 q0_2 q0_3 p0_4)), .second, .val (.long (own_j0_17 q0_0 q0_1 q0_2 q0_3 p0_4)), .second, .unset, .unset, .unset, .unset, .unset, .unset, .unset, .unset, .unset, .unset] [(.long (own_v0_2 q0_1)), (.long (own_v0_1 q0_0)), (.long (own_v0_0 q0_0))])) _
    refine XT.lload Xj0_7.here hx rfl (hb hby at_166) rfl ?_
    show Steps p.tables e below (Tj0_7.setTop (mkF m 168 #[.val (.long q0_0), .second, .val (.long q0_1), .second, .val (.long q0_2), .second, .val (.long q0_3), .second, .val (.int p0_4), .val (.long (own_v0_0 q0_0)), .second, .val (.long (own_v0_1 q0_0)), .second, .val (.long (own_v0_2 q0_1)), .second, .val (.long (own_v0_3 q0_1)), .second, .val (.long (own_v0_4 q0_2)), .second, .val (.long (own_v0_5 q0_2)), .second, .val (.int (p0_4 &&& (3 : Int32))), .val (.long (own_j0_16 q0_0 q0_1 q0_2 q0_3 p0_4)), .second, .val (.long (own_j0_17 q0_0 q0_1 q0_2 q0_3 p0_4)), .second, .unset, .unset, .unset, .unset, .unset, .unset, .unset, .unset, .unset, .unset] [(.long (own_v0_3 q0_1)), (.long (own_v0_2 q0_1)), (.long (own_v0_1 q0_0)), (.long (own_v0_0 q0_0))])) _
    refine XT.lload Xj0_7.here hx rfl (hb hby at_168) rfl ?_
    show Steps p.tables e below (Tj0_7.setTop (mkF m 170 #[.val (.long q0_0), .second, .val (.long q0_1), .second, .val (.long q0_2), .second, .val (.long q0_3), .second, .val (.int p0_4), .val (.long (own_v0_0 q0_0)), .second, .val (.long (own_v0_1 q0_0)), .second, .val (.long (own_v0_2 q0_1)), .second, .val (.long (own_v0_3 q0_1)), .second, .val (.long (own_v0_4 q0_2)), .second, .val (.long (own_v0_5 q0_2)), .second, .val (.int (p0_4 &&& (3 : Int32))), .val (.long (own_j0_16 q0_0 q0_1 q0_2 q0_3 p0_4)), .second, .val (.long (own_j0_17 q0_0 q0_1 q0_2 q0_3 p0_4)), .second, .unset, .unset, .unset, .unset, .unset, .unset, .unset, .unset, .unset, .unset] [(.long (own_v0_4 q0_2)), (.long (own_v0_3 q0_1)), (.long (own_v0_2 q0_1)), (.long (own_v0_1 q0_0)), (.long (own_v0_0 q0_0))])) _
    refine XT.lload Xj0_7.here hx rfl (hb hby at_170) rfl ?_
    show Steps p.tables e below (Tj0_7.setTop (mkF m 172 #[.val (.long q0_0), .second, .val (.long q0_1), .second, .val (.long q0_2), .second, .val (.long q0_3), .second, .val (.int p0_4), .val (.long (own_v0_0 q0_0)), .second, .val (.long (own_v0_1 q0_0)), .second, .val (.long (own_v0_2 q0_1)), .second, .val (.long (own_v0_3 q0_1)), .second, .val (.long (own_v0_4 q0_2)), .second, .val (.long (own_v0_5 q0_2)), .second, .val (.int (p0_4 &&& (3 : Int32))), .val (.long (own_j0_16 q0_0 q0_1 q0_2 q0_3 p0_4)), .second, .val (.long (own_j0_17 q0_0 q0_1 q0_2 q0_3 p0_4)), .second, .unset, .unset, .unset, .unset, .unset, .unset, .unset, .unset, .unset, .unset] [(.long (own_v0_5 q0_2)), (.long (own_v0_4 q0_2)), (.long (own_v0_3 q0_1)), (.long (own_v0_2 q0_1)), (.long (own_v0_1 q0_0)), (.long (own_v0_0 q0_0))])) _
    refine stk0_12 _ ?_
    show Steps p.tables e below (Tk0_12.setTop (mkF m 175 #[.val (.long q0_0), .second, .val (.long q0_1), .second, .val (.long q0_2), .second, .val (.long q0_3), .second, .val (.int p0_4), .val (.long (own_v0_0 q0_0)), .second, .val (.long (own_v0_1 q0_0)), .second, .val (.long (own_v0_2 q0_1)), .second, .val (.long (own_v0_3 q0_1)), .second, .val (.long (own_v0_4 q0_2)), .second, .val (.long (own_v0_5 q0_2)), .second, .val (.int (p0_4 &&& (3 : Int32))), .val (.long (own_j0_16 q0_0 q0_1 q0_2 q0_3 p0_4)), .second, .val (.long (own_j0_17 q0_0 q0_1 q0_2 q0_3 p0_4)), .second, .unset, .unset, .unset, .unset, .unset, .unset, .unset, .unset, .unset, .unset] [(.long (own_r2_0 (own_v0_0 q0_0) (own_v0_1 q0_0) (own_v0_2 q0_1) (own_v0_3 q0_1) (own_v0_4 q0_2) (own_v0_5 q0_2)))])) _
    refine XT.lstore Xk0_12.here hx rfl (hb hby at_175) rfl (l' := #[.val (.long q0_0), .second, .val (.long q0_1), .second, .val (.long q0_2), .second, .val (.long q0_3), .second, .val (.int p0_4), .val (.long (own_v0_0 q0_0)), .second, .val (.long (own_v0_1 q0_0)), .second, .val (.long (own_v0_2 q0_1)), .second, .val (.long (own_v0_3 q0_1)), .second, .val (.long (own_v0_4 q0_2)), .second, .val (.long (own_v0_5 q0_2)), .second, .val (.int (p0_4 &&& (3 : Int32))), .val (.long (own_j0_16 q0_0 q0_1 q0_2 q0_3 p0_4)), .second, .val (.long (own_j0_17 q0_0 q0_1 q0_2 q0_3 p0_4)), .second, .val (.long (own_v0_18 q0_0 q0_1 q0_2)), .second, .unset, .unset, .unset, .unset, .unset, .unset, .unset, .unset]) rfl ?_
    show Steps p.tables e below (Tk0_12.setTop (mkF m 177 #[.val (.long q0_0), .second, .val (.long q0_1), .second, .val (.long q0_2), .second, .val (.long q0_3), .second, .val (.int p0_4), .val (.long (own_v0_0 q0_0)), .second, .val (.long (own_v0_1 q0_0)), .second, .val (.long (own_v0_2 q0_1)), .second, .val (.long (own_v0_3 q0_1)), .second, .val (.long (own_v0_4 q0_2)), .second, .val (.long (own_v0_5 q0_2)), .second, .val (.int (p0_4 &&& (3 : Int32))), .val (.long (own_j0_16 q0_0 q0_1 q0_2 q0_3 p0_4)), .second, .val (.long (own_j0_17 q0_0 q0_1 q0_2 q0_3 p0_4)), .second, .val (.long (own_v0_18 q0_0 q0_1 q0_2)), .second, .unset, .unset, .unset, .unset, .unset, .unset, .unset, .unset] [])) _
    refine XT.lload Xk0_12.here hx rfl (hb hby at_177) rfl ?_
    show Steps p.tables e below (Tk0_12.setTop (mkF m 179 #[.val (.long q0_0), .second, .val (.long q0_1), .second, .val (.long q0_2), .second, .val (.long q0_3), .second, .val (.int p0_4), .val (.long (own_v0_0 q0_0)), .second, .val (.long (own_v0_1 q0_0)), .second, .val (.long (own_v0_2 q0_1)), .second, .val (.long (own_v0_3 q0_1)), .second, .val (.long (own_v0_4 q0_2)), .second, .val (.long (own_v0_5 q0_2)), .second, .val (.int (p0_4 &&& (3 : Int32))), .val (.long (own_j0_16 q0_0 q0_1 q0_2 q0_3 p0_4)), .second, .val (.long (own_j0_17 q0_0 q0_1 q0_2 q0_3 p0_4)), .second, .val (.long (own_v0_18 q0_0 q0_1 q0_2)), .second, .unset, .unset, .unset, .unset, .unset, .unset, .unset, .unset] [(.long (own_v0_18 q0_0 q0_1 q0_2))])) _
    refine XT.lconst Xk0_12.here hx rfl (hb hby at_179) ?_
    show Steps p.tables e below (Tk0_12.setTop (mkF m 180 #[.val (.long q0_0), .second, .val (.long q0_1), .second, .val (.long q0_2), .second, .val (.long q0_3), .second, .val (.int p0_4), .val (.long (own_v0_0 q0_0)), .second, .val (.long (own_v0_1 q0_0)), .second, .val (.long (own_v0_2 q0_1)), .second, .val (.long (own_v0_3 q0_1)), .second, .val (.long (own_v0_4 q0_2)), .second, .val (.long (own_v0_5 q0_2)), .second, .val (.int (p0_4 &&& (3 : Int32))), .val (.long (own_j0_16 q0_0 q0_1 q0_2 q0_3 p0_4)), .second, .val (.long (own_j0_17 q0_0 q0_1 q0_2 q0_3 p0_4)), .second, .val (.long (own_v0_18 q0_0 q0_1 q0_2)), .second, .unset, .unset, .unset, .unset, .unset, .unset, .unset, .unset] [(.long (0 : Int64)), (.long (own_v0_18 q0_0 q0_1 q0_2))])) _
    refine XT.lcmp Xk0_12.here hx rfl (hb hby at_180) rfl ?_
    exact kt
  by_cases hs0_13 : (own_v0_18 q0_0 q0_1 q0_2) = (0 : Int64)
  · have K0_14 : ∀ t, Steps p.tables e below (Tk0_12.setTop (mkF m 184 #[.val (.long q0_0), .second, .val (.long q0_1), .second, .val (.long q0_2), .second, .val (.long q0_3), .second, .val (.int p0_4), .val (.long (own_v0_0 q0_0)), .second, .val (.long (own_v0_1 q0_0)), .second, .val (.long (own_v0_2 q0_1)), .second, .val (.long (own_v0_3 q0_1)), .second, .val (.long (own_v0_4 q0_2)), .second, .val (.long (own_v0_5 q0_2)), .second, .val (.int (p0_4 &&& (3 : Int32))), .val (.long (own_j0_16 q0_0 q0_1 q0_2 q0_3 p0_4)), .second, .val (.long (own_j0_17 q0_0 q0_1 q0_2 q0_3 p0_4)), .second, .val (.long (own_v0_18 q0_0 q0_1 q0_2)), .second, .unset, .unset, .unset, .unset, .unset, .unset, .unset, .unset] [])) t → Steps p.tables e below (Tk0_12.setTop (mkF m 181 #[.val (.long q0_0), .second, .val (.long q0_1), .second, .val (.long q0_2), .second, .val (.long q0_3), .second, .val (.int p0_4), .val (.long (own_v0_0 q0_0)), .second, .val (.long (own_v0_1 q0_0)), .second, .val (.long (own_v0_2 q0_1)), .second, .val (.long (own_v0_3 q0_1)), .second, .val (.long (own_v0_4 q0_2)), .second, .val (.long (own_v0_5 q0_2)), .second, .val (.int (p0_4 &&& (3 : Int32))), .val (.long (own_j0_16 q0_0 q0_1 q0_2 q0_3 p0_4)), .second, .val (.long (own_j0_17 q0_0 q0_1 q0_2 q0_3 p0_4)), .second, .val (.long (own_v0_18 q0_0 q0_1 q0_2)), .second, .unset, .unset, .unset, .unset, .unset, .unset, .unset, .unset] [(.int (XT.cmpL (own_v0_18 q0_0 q0_1 q0_2) (0 : Int64)))])) t := by
      intro t kt
      show Steps p.tables e below (Tk0_12.setTop (mkF m 181 #[.val (.long q0_0), .second, .val (.long q0_1), .second, .val (.long q0_2), .second, .val (.long q0_3), .second, .val (.int p0_4), .val (.long (own_v0_0 q0_0)), .second, .val (.long (own_v0_1 q0_0)), .second, .val (.long (own_v0_2 q0_1)), .second, .val (.long (own_v0_3 q0_1)), .second, .val (.long (own_v0_4 q0_2)), .second, .val (.long (own_v0_5 q0_2)), .second, .val (.int (p0_4 &&& (3 : Int32))), .val (.long (own_j0_16 q0_0 q0_1 q0_2 q0_3 p0_4)), .second, .val (.long (own_j0_17 q0_0 q0_1 q0_2 q0_3 p0_4)), .second, .val (.long (own_v0_18 q0_0 q0_1 q0_2)), .second, .unset, .unset, .unset, .unset, .unset, .unset, .unset, .unset] [(.int (XT.cmpL (own_v0_18 q0_0 q0_1 q0_2) (0 : Int64)))])) _
      refine XS.ifNo Xk0_12.here hx rfl (hb hby at_181) rfl (XT.ll_ne_f hs0_13) ?_
      exact kt
    obtain ⟨fs, hr, hrun, hended, hW, hsame⟩ := Xk0_12.leave (v := some (.int (1 : Int32))) (fun h => by rw [Bd.returns] at h; cases h)
    refine ⟨_, _, pre0 _ (Ks0_13 _ (K0_14 _ (?_))), hrun, hended, _, _, rfl, ?_, ⟨_, rfl⟩, hW, hsame.mono (by decide) (by decide)⟩
    · show Steps p.tables e below (Tk0_12.setTop (mkF m 184 #[.val (.long q0_0), .second, .val (.long q0_1), .second, .val (.long q0_2), .second, .val (.long q0_3), .second, .val (.int p0_4), .val (.long (own_v0_0 q0_0)), .second, .val (.long (own_v0_1 q0_0)), .second, .val (.long (own_v0_2 q0_1)), .second, .val (.long (own_v0_3 q0_1)), .second, .val (.long (own_v0_4 q0_2)), .second, .val (.long (own_v0_5 q0_2)), .second, .val (.int (p0_4 &&& (3 : Int32))), .val (.long (own_j0_16 q0_0 q0_1 q0_2 q0_3 p0_4)), .second, .val (.long (own_j0_17 q0_0 q0_1 q0_2 q0_3 p0_4)), .second, .val (.long (own_v0_18 q0_0 q0_1 q0_2)), .second, .unset, .unset, .unset, .unset, .unset, .unset, .unset, .unset] [])) _
      refine XS.iconst Xk0_12.here hx rfl (hb hby at_184) ?_
      show Steps p.tables e below (Tk0_12.setTop (mkF m 185 #[.val (.long q0_0), .second, .val (.long q0_1), .second, .val (.long q0_2), .second, .val (.long q0_3), .second, .val (.int p0_4), .val (.long (own_v0_0 q0_0)), .second, .val (.long (own_v0_1 q0_0)), .second, .val (.long (own_v0_2 q0_1)), .second, .val (.long (own_v0_3 q0_1)), .second, .val (.long (own_v0_4 q0_2)), .second, .val (.long (own_v0_5 q0_2)), .second, .val (.int (p0_4 &&& (3 : Int32))), .val (.long (own_j0_16 q0_0 q0_1 q0_2 q0_3 p0_4)), .second, .val (.long (own_j0_17 q0_0 q0_1 q0_2 q0_3 p0_4)), .second, .val (.long (own_v0_18 q0_0 q0_1 q0_2)), .second, .unset, .unset, .unset, .unset, .unset, .unset, .unset, .unset] [(.int (1 : Int32))])) _
      exact retN Xk0_12 hx (t := .boolean) Bd.returns (by simp) (hb hby at_185) hr
    · show own_Q0 Z q0_0 q0_1 q0_2 q0_3 p0_4 h0 n0 _ Tk0_12.heap _
      rw [ek0_12]
      exact ⟨rfl, Nk0_12⟩
  · have K0_15 : ∀ t, Steps p.tables e below (Tk0_12.setTop (mkF m 186 #[.val (.long q0_0), .second, .val (.long q0_1), .second, .val (.long q0_2), .second, .val (.long q0_3), .second, .val (.int p0_4), .val (.long (own_v0_0 q0_0)), .second, .val (.long (own_v0_1 q0_0)), .second, .val (.long (own_v0_2 q0_1)), .second, .val (.long (own_v0_3 q0_1)), .second, .val (.long (own_v0_4 q0_2)), .second, .val (.long (own_v0_5 q0_2)), .second, .val (.int (p0_4 &&& (3 : Int32))), .val (.long (own_j0_16 q0_0 q0_1 q0_2 q0_3 p0_4)), .second, .val (.long (own_j0_17 q0_0 q0_1 q0_2 q0_3 p0_4)), .second, .val (.long (own_v0_18 q0_0 q0_1 q0_2)), .second, .unset, .unset, .unset, .unset, .unset, .unset, .unset, .unset] [])) t → Steps p.tables e below (Tk0_12.setTop (mkF m 181 #[.val (.long q0_0), .second, .val (.long q0_1), .second, .val (.long q0_2), .second, .val (.long q0_3), .second, .val (.int p0_4), .val (.long (own_v0_0 q0_0)), .second, .val (.long (own_v0_1 q0_0)), .second, .val (.long (own_v0_2 q0_1)), .second, .val (.long (own_v0_3 q0_1)), .second, .val (.long (own_v0_4 q0_2)), .second, .val (.long (own_v0_5 q0_2)), .second, .val (.int (p0_4 &&& (3 : Int32))), .val (.long (own_j0_16 q0_0 q0_1 q0_2 q0_3 p0_4)), .second, .val (.long (own_j0_17 q0_0 q0_1 q0_2 q0_3 p0_4)), .second, .val (.long (own_v0_18 q0_0 q0_1 q0_2)), .second, .unset, .unset, .unset, .unset, .unset, .unset, .unset, .unset] [(.int (XT.cmpL (own_v0_18 q0_0 q0_1 q0_2) (0 : Int64)))])) t := by
      intro t kt
      show Steps p.tables e below (Tk0_12.setTop (mkF m 181 #[.val (.long q0_0), .second, .val (.long q0_1), .second, .val (.long q0_2), .second, .val (.long q0_3), .second, .val (.int p0_4), .val (.long (own_v0_0 q0_0)), .second, .val (.long (own_v0_1 q0_0)), .second, .val (.long (own_v0_2 q0_1)), .second, .val (.long (own_v0_3 q0_1)), .second, .val (.long (own_v0_4 q0_2)), .second, .val (.long (own_v0_5 q0_2)), .second, .val (.int (p0_4 &&& (3 : Int32))), .val (.long (own_j0_16 q0_0 q0_1 q0_2 q0_3 p0_4)), .second, .val (.long (own_j0_17 q0_0 q0_1 q0_2 q0_3 p0_4)), .second, .val (.long (own_v0_18 q0_0 q0_1 q0_2)), .second, .unset, .unset, .unset, .unset, .unset, .unset, .unset, .unset] [(.int (XT.cmpL (own_v0_18 q0_0 q0_1 q0_2) (0 : Int64)))])) _
      refine XS.ifYes Xk0_12.here hx rfl (pc0 := 181) (pc' := 186) rfl (hb hby at_181) rfl (XT.ll_ne_t hs0_13) (by decide) (by decide) ?_
      exact kt
    obtain ⟨_, _, ⟨Tk0_16, Lk0_16, kk0_16, nk0_16⟩, -, Xk0_16, ⟨Lck0_16, hQk0_16, lk0_16, yk0_16, zk0_16⟩, stk0_16⟩ := Jvm.LawKit.callS Xk0_12 hx (y := (⟨"com/example/wideberth/wideberth/maximin/TriangleContainsPinLaw", "cross", "(JJJJJJ)J"⟩ : MethodName)) hown (mvT hZ (hw _ (List.mem_of_getElem? (i := 4) rfl))) (mvT hZ (hw _ (List.mem_of_getElem? (i := 5) rfl))) (mvT hZ (hw _ (List.mem_of_getElem? (i := 2) rfl))) (mvT hZ (hw _ (List.mem_of_getElem? (i := 6) rfl))) (by decide) (backOf (W := 0) (own_rm2 l Z a0 hw [] (own_v0_0 q0_0) (own_v0_1 q0_0) (own_v0_2 q0_1) (own_v0_3 q0_1) (own_j0_16 q0_0 q0_1 q0_2 q0_3 p0_4) (own_j0_17 q0_0 q0_1 q0_2 q0_3 p0_4) h0 n0 Z0) hZ (hw _ (List.mem_of_getElem? (i := 6) rfl)) (hw _ (List.mem_of_getElem? (i := 2) rfl)) (by decide) (by decide)) (g := (mkF m 198 #[.val (.long q0_0), .second, .val (.long q0_1), .second, .val (.long q0_2), .second, .val (.long q0_3), .second, .val (.int p0_4), .val (.long (own_v0_0 q0_0)), .second, .val (.long (own_v0_1 q0_0)), .second, .val (.long (own_v0_2 q0_1)), .second, .val (.long (own_v0_3 q0_1)), .second, .val (.long (own_v0_4 q0_2)), .second, .val (.long (own_v0_5 q0_2)), .second, .val (.int (p0_4 &&& (3 : Int32))), .val (.long (own_j0_16 q0_0 q0_1 q0_2 q0_3 p0_4)), .second, .val (.long (own_j0_17 q0_0 q0_1 q0_2 q0_3 p0_4)), .second, .val (.long (own_v0_18 q0_0 q0_1 q0_2)), .second, .unset, .unset, .unset, .unset, .unset, .unset, .unset, .unset] [(.long (own_j0_17 q0_0 q0_1 q0_2 q0_3 p0_4)), (.long (own_j0_16 q0_0 q0_1 q0_2 q0_3 p0_4)), (.long (own_v0_3 q0_1)), (.long (own_v0_2 q0_1)), (.long (own_v0_1 q0_0)), (.long (own_v0_0 q0_0))])) rfl (by rw [hml]; rfl) (argsL := [(.long (own_v0_0 q0_0)), (.long (own_v0_1 q0_0)), (.long (own_v0_2 q0_1)), (.long (own_v0_3 q0_1)), (.long (own_j0_16 q0_0 q0_1 q0_2 q0_3 p0_4)), (.long (own_j0_17 q0_0 q0_1 q0_2 q0_3 p0_4))]) (rest := []) (lenOf own_pd2 rfl) rfl (by show 2 * 0 + _ ≤ _; exact Nat.le_of_eq rfl) (hb hby at_198) (fun _ _ => ⟨rfl, ek0_12, (by decide : 0 + 0 ≤ _), (by decide : 0 + 0 ≤ _)⟩)
    dsimp only [Pt.U, Pt.locs, Pt.cells, Pt.slots] at Xk0_16 lk0_16 yk0_16 zk0_16 stk0_16 hQk0_16
    subst lk0_16 yk0_16 zk0_16
    obtain ⟨rfl, Nk0_16q, ek0_16⟩ := hQk0_16
    have Nk0_16 := Fr.app Nk0_12 Nk0_16q
    obtain ⟨_, _, ⟨Tk0_17, Lk0_17, kk0_17, nk0_17⟩, -, Xk0_17, ⟨Lck0_17, hQk0_17, lk0_17, yk0_17, zk0_17⟩, stk0_17⟩ := Jvm.LawKit.callS Xk0_16 hx (y := (⟨"com/example/wideberth/wideberth/maximin/TriangleContainsPinLaw", "cross", "(JJJJJJ)J"⟩ : MethodName)) hown (mvT hZ (hw _ (List.mem_of_getElem? (i := 4) rfl))) (mvT hZ (hw _ (List.mem_of_getElem? (i := 5) rfl))) (mvT hZ (hw _ (List.mem_of_getElem? (i := 2) rfl))) (mvT hZ (hw _ (List.mem_of_getElem? (i := 6) rfl))) (by decide) (backOf (W := 0) (own_rm2 l Z a0 hw [] (own_v0_2 q0_1) (own_v0_3 q0_1) (own_v0_4 q0_2) (own_v0_5 q0_2) (own_j0_16 q0_0 q0_1 q0_2 q0_3 p0_4) (own_j0_17 q0_0 q0_1 q0_2 q0_3 p0_4) h0 n0 Z0) hZ (hw _ (List.mem_of_getElem? (i := 6) rfl)) (hw _ (List.mem_of_getElem? (i := 2) rfl)) (by decide) (by decide)) (g := (mkF m 215 #[.val (.long q0_0), .second, .val (.long q0_1), .second, .val (.long q0_2), .second, .val (.long q0_3), .second, .val (.int p0_4), .val (.long (own_v0_0 q0_0)), .second, .val (.long (own_v0_1 q0_0)), .second, .val (.long (own_v0_2 q0_1)), .second, .val (.long (own_v0_3 q0_1)), .second, .val (.long (own_v0_4 q0_2)), .second, .val (.long (own_v0_5 q0_2)), .second, .val (.int (p0_4 &&& (3 : Int32))), .val (.long (own_j0_16 q0_0 q0_1 q0_2 q0_3 p0_4)), .second, .val (.long (own_j0_17 q0_0 q0_1 q0_2 q0_3 p0_4)), .second, .val (.long (own_v0_18 q0_0 q0_1 q0_2)), .second, .val (.long (own_v0_19 q0_0 q0_1 q0_2 q0_3 p0_4)), .second, .unset, .unset, .unset, .unset, .unset, .unset] [(.long (own_j0_17 q0_0 q0_1 q0_2 q0_3 p0_4)), (.long (own_j0_16 q0_0 q0_1 q0_2 q0_3 p0_4)), (.long (own_v0_5 q0_2)), (.long (own_v0_4 q0_2)), (.long (own_v0_3 q0_1)), (.long (own_v0_2 q0_1))])) rfl (by rw [hml]; rfl) (argsL := [(.long (own_v0_2 q0_1)), (.long (own_v0_3 q0_1)), (.long (own_v0_4 q0_2)), (.long (own_v0_5 q0_2)), (.long (own_j0_16 q0_0 q0_1 q0_2 q0_3 p0_4)), (.long (own_j0_17 q0_0 q0_1 q0_2 q0_3 p0_4))]) (rest := []) (lenOf own_pd2 rfl) rfl (by show 2 * 0 + _ ≤ _; exact Nat.le_of_eq rfl) (hb hby at_215) (fun _ _ => ⟨rfl, ek0_16, (by decide : 0 + 0 ≤ _), (by decide : 0 + 0 ≤ _)⟩)
    dsimp only [Pt.U, Pt.locs, Pt.cells, Pt.slots] at Xk0_17 lk0_17 yk0_17 zk0_17 stk0_17 hQk0_17
    subst lk0_17 yk0_17 zk0_17
    obtain ⟨rfl, Nk0_17q, ek0_17⟩ := hQk0_17
    have Nk0_17 := Fr.app Nk0_16 Nk0_17q
    obtain ⟨_, _, ⟨Tk0_18, Lk0_18, kk0_18, nk0_18⟩, -, Xk0_18, ⟨Lck0_18, hQk0_18, lk0_18, yk0_18, zk0_18⟩, stk0_18⟩ := Jvm.LawKit.callS Xk0_17 hx (y := (⟨"com/example/wideberth/wideberth/maximin/TriangleContainsPinLaw", "cross", "(JJJJJJ)J"⟩ : MethodName)) hown (mvT hZ (hw _ (List.mem_of_getElem? (i := 4) rfl))) (mvT hZ (hw _ (List.mem_of_getElem? (i := 5) rfl))) (mvT hZ (hw _ (List.mem_of_getElem? (i := 2) rfl))) (mvT hZ (hw _ (List.mem_of_getElem? (i := 6) rfl))) (by decide) (backOf (W := 0) (own_rm2 l Z a0 hw [] (own_v0_4 q0_2) (own_v0_5 q0_2) (own_v0_0 q0_0) (own_v0_1 q0_0) (own_j0_16 q0_0 q0_1 q0_2 q0_3 p0_4) (own_j0_17 q0_0 q0_1 q0_2 q0_3 p0_4) h0 n0 Z0) hZ (hw _ (List.mem_of_getElem? (i := 6) rfl)) (hw _ (List.mem_of_getElem? (i := 2) rfl)) (by decide) (by decide)) (g := (mkF m 232 #[.val (.long q0_0), .second, .val (.long q0_1), .second, .val (.long q0_2), .second, .val (.long q0_3), .second, .val (.int p0_4), .val (.long (own_v0_0 q0_0)), .second, .val (.long (own_v0_1 q0_0)), .second, .val (.long (own_v0_2 q0_1)), .second, .val (.long (own_v0_3 q0_1)), .second, .val (.long (own_v0_4 q0_2)), .second, .val (.long (own_v0_5 q0_2)), .second, .val (.int (p0_4 &&& (3 : Int32))), .val (.long (own_j0_16 q0_0 q0_1 q0_2 q0_3 p0_4)), .second, .val (.long (own_j0_17 q0_0 q0_1 q0_2 q0_3 p0_4)), .second, .val (.long (own_v0_18 q0_0 q0_1 q0_2)), .second, .val (.long (own_v0_19 q0_0 q0_1 q0_2 q0_3 p0_4)), .second, .val (.long (own_v0_20 q0_0 q0_1 q0_2 q0_3 p0_4)), .second, .unset, .unset, .unset, .unset] [(.long (own_j0_17 q0_0 q0_1 q0_2 q0_3 p0_4)), (.long (own_j0_16 q0_0 q0_1 q0_2 q0_3 p0_4)), (.long (own_v0_1 q0_0)), (.long (own_v0_0 q0_0)), (.long (own_v0_5 q0_2)), (.long (own_v0_4 q0_2))])) rfl (by rw [hml]; rfl) (argsL := [(.long (own_v0_4 q0_2)), (.long (own_v0_5 q0_2)), (.long (own_v0_0 q0_0)), (.long (own_v0_1 q0_0)), (.long (own_j0_16 q0_0 q0_1 q0_2 q0_3 p0_4)), (.long (own_j0_17 q0_0 q0_1 q0_2 q0_3 p0_4))]) (rest := []) (lenOf own_pd2 rfl) rfl (by show 2 * 0 + _ ≤ _; exact Nat.le_of_eq rfl) (hb hby at_232) (fun _ _ => ⟨rfl, ek0_17, (by decide : 0 + 0 ≤ _), (by decide : 0 + 0 ≤ _)⟩)
    dsimp only [Pt.U, Pt.locs, Pt.cells, Pt.slots] at Xk0_18 lk0_18 yk0_18 zk0_18 stk0_18 hQk0_18
    subst lk0_18 yk0_18 zk0_18
    obtain ⟨rfl, Nk0_18q, ek0_18⟩ := hQk0_18
    have Nk0_18 := Fr.app Nk0_17 Nk0_18q
    obtain ⟨_, _, ⟨Tk0_19, Lk0_19, kk0_19, nk0_19⟩, -, Xk0_19, ⟨Lck0_19, hQk0_19, lk0_19, yk0_19, zk0_19⟩, stk0_19⟩ := Jvm.LawKit.callS Xk0_18 hx (y := (⟨"java/lang/Math", "abs", "(J)J"⟩ : MethodName)) hown (mvT hZ (hw _ (List.mem_of_getElem? (i := 7) rfl))) (mvT hZ (hw _ (List.mem_of_getElem? (i := 8) rfl))) (mvT hZ (hw _ (List.mem_of_getElem? (i := 9) rfl))) (mvT hZ (hw _ (List.mem_of_getElem? (i := 10) rfl))) (by decide) (backOf (W := 0) (own_rm3 l Z a0 hw [] (own_v0_18 q0_0 q0_1 q0_2) h0 n0 Z0) hZ (hw _ (List.mem_of_getElem? (i := 10) rfl)) (hw _ (List.mem_of_getElem? (i := 9) rfl)) (by decide) (by decide)) (g := (mkF m 239 #[.val (.long q0_0), .second, .val (.long q0_1), .second, .val (.long q0_2), .second, .val (.long q0_3), .second, .val (.int p0_4), .val (.long (own_v0_0 q0_0)), .second, .val (.long (own_v0_1 q0_0)), .second, .val (.long (own_v0_2 q0_1)), .second, .val (.long (own_v0_3 q0_1)), .second, .val (.long (own_v0_4 q0_2)), .second, .val (.long (own_v0_5 q0_2)), .second, .val (.int (p0_4 &&& (3 : Int32))), .val (.long (own_j0_16 q0_0 q0_1 q0_2 q0_3 p0_4)), .second, .val (.long (own_j0_17 q0_0 q0_1 q0_2 q0_3 p0_4)), .second, .val (.long (own_v0_18 q0_0 q0_1 q0_2)), .second, .val (.long (own_v0_19 q0_0 q0_1 q0_2 q0_3 p0_4)), .second, .val (.long (own_v0_20 q0_0 q0_1 q0_2 q0_3 p0_4)), .second, .val (.long (own_v0_21 q0_0 q0_1 q0_2 q0_3 p0_4)), .second, .unset, .unset] [(.long (own_v0_18 q0_0 q0_1 q0_2))])) rfl (by rw [hml]; rfl) (argsL := [(.long (own_v0_18 q0_0 q0_1 q0_2))]) (rest := []) (lenOf own_pd3 rfl) rfl (by show 2 * 0 + _ ≤ _; exact Nat.le_of_eq rfl) (hb hby at_239) (fun _ _ => ⟨rfl, ek0_18, (by decide : 0 + 0 ≤ _), (by decide : 0 + 0 ≤ _)⟩)
    dsimp only [Pt.U, Pt.locs, Pt.cells, Pt.slots] at Xk0_19 lk0_19 yk0_19 zk0_19 stk0_19 hQk0_19
    subst lk0_19 yk0_19 zk0_19
    obtain ⟨rfl, Nk0_19q, ek0_19⟩ := hQk0_19
    have Nk0_19 := Fr.app Nk0_18 Nk0_19q
    obtain ⟨_, _, ⟨Tk0_20, Lk0_20, kk0_20, nk0_20⟩, -, Xk0_20, ⟨Lck0_20, hQk0_20, lk0_20, yk0_20, zk0_20⟩, stk0_20⟩ := Jvm.LawKit.callS Xk0_19 hx (y := (⟨"java/lang/Math", "abs", "(J)J"⟩ : MethodName)) hown (mvT hZ (hw _ (List.mem_of_getElem? (i := 7) rfl))) (mvT hZ (hw _ (List.mem_of_getElem? (i := 8) rfl))) (mvT hZ (hw _ (List.mem_of_getElem? (i := 9) rfl))) (mvT hZ (hw _ (List.mem_of_getElem? (i := 10) rfl))) (by decide) (backOf (W := 2) (own_rm3 l Z a0 hw [] (own_v0_19 q0_0 q0_1 q0_2 q0_3 p0_4) h0 n0 Z0) hZ (hw _ (List.mem_of_getElem? (i := 10) rfl)) (hw _ (List.mem_of_getElem? (i := 9) rfl)) (by decide) (by decide)) (g := (mkF m 244 #[.val (.long q0_0), .second, .val (.long q0_1), .second, .val (.long q0_2), .second, .val (.long q0_3), .second, .val (.int p0_4), .val (.long (own_v0_0 q0_0)), .second, .val (.long (own_v0_1 q0_0)), .second, .val (.long (own_v0_2 q0_1)), .second, .val (.long (own_v0_3 q0_1)), .second, .val (.long (own_v0_4 q0_2)), .second, .val (.long (own_v0_5 q0_2)), .second, .val (.int (p0_4 &&& (3 : Int32))), .val (.long (own_j0_16 q0_0 q0_1 q0_2 q0_3 p0_4)), .second, .val (.long (own_j0_17 q0_0 q0_1 q0_2 q0_3 p0_4)), .second, .val (.long (own_v0_18 q0_0 q0_1 q0_2)), .second, .val (.long (own_v0_19 q0_0 q0_1 q0_2 q0_3 p0_4)), .second, .val (.long (own_v0_20 q0_0 q0_1 q0_2 q0_3 p0_4)), .second, .val (.long (own_v0_21 q0_0 q0_1 q0_2 q0_3 p0_4)), .second, .unset, .unset] [(.long (own_v0_19 q0_0 q0_1 q0_2 q0_3 p0_4)), (.long (own_j3_0 (own_v0_18 q0_0 q0_1 q0_2)))])) rfl (by rw [hml]; rfl) (argsL := [(.long (own_v0_19 q0_0 q0_1 q0_2 q0_3 p0_4))]) (rest := [(.long (own_j3_0 (own_v0_18 q0_0 q0_1 q0_2)))]) (lenOf own_pd3 rfl) rfl (by show 2 * 0 + _ ≤ _; exact Nat.le_of_eq rfl) (hb hby at_244) (fun _ _ => ⟨rfl, ek0_19, (by decide : 0 + 0 ≤ _), (by decide : 0 + 0 ≤ _)⟩)
    dsimp only [Pt.U, Pt.locs, Pt.cells, Pt.slots] at Xk0_20 lk0_20 yk0_20 zk0_20 stk0_20 hQk0_20
    subst lk0_20 yk0_20 zk0_20
    obtain ⟨rfl, Nk0_20q, ek0_20⟩ := hQk0_20
    have Nk0_20 := Fr.app Nk0_19 Nk0_20q
    obtain ⟨_, _, ⟨Tk0_21, Lk0_21, kk0_21, nk0_21⟩, -, Xk0_21, ⟨Lck0_21, hQk0_21, lk0_21, yk0_21, zk0_21⟩, stk0_21⟩ := Jvm.LawKit.callS Xk0_20 hx (y := (⟨"java/lang/Math", "abs", "(J)J"⟩ : MethodName)) hown (mvT hZ (hw _ (List.mem_of_getElem? (i := 7) rfl))) (mvT hZ (hw _ (List.mem_of_getElem? (i := 8) rfl))) (mvT hZ (hw _ (List.mem_of_getElem? (i := 9) rfl))) (mvT hZ (hw _ (List.mem_of_getElem? (i := 10) rfl))) (by decide) (backOf (W := 4) (own_rm3 l Z a0 hw [] (own_v0_20 q0_0 q0_1 q0_2 q0_3 p0_4) h0 n0 Z0) hZ (hw _ (List.mem_of_getElem? (i := 10) rfl)) (hw _ (List.mem_of_getElem? (i := 9) rfl)) (by decide) (by decide)) (g := (mkF m 249 #[.val (.long q0_0), .second, .val (.long q0_1), .second, .val (.long q0_2), .second, .val (.long q0_3), .second, .val (.int p0_4), .val (.long (own_v0_0 q0_0)), .second, .val (.long (own_v0_1 q0_0)), .second, .val (.long (own_v0_2 q0_1)), .second, .val (.long (own_v0_3 q0_1)), .second, .val (.long (own_v0_4 q0_2)), .second, .val (.long (own_v0_5 q0_2)), .second, .val (.int (p0_4 &&& (3 : Int32))), .val (.long (own_j0_16 q0_0 q0_1 q0_2 q0_3 p0_4)), .second, .val (.long (own_j0_17 q0_0 q0_1 q0_2 q0_3 p0_4)), .second, .val (.long (own_v0_18 q0_0 q0_1 q0_2)), .second, .val (.long (own_v0_19 q0_0 q0_1 q0_2 q0_3 p0_4)), .second, .val (.long (own_v0_20 q0_0 q0_1 q0_2 q0_3 p0_4)), .second, .val (.long (own_v0_21 q0_0 q0_1 q0_2 q0_3 p0_4)), .second, .unset, .unset] [(.long (own_v0_20 q0_0 q0_1 q0_2 q0_3 p0_4)), (.long (own_j3_0 (own_v0_19 q0_0 q0_1 q0_2 q0_3 p0_4))), (.long (own_j3_0 (own_v0_18 q0_0 q0_1 q0_2)))])) rfl (by rw [hml]; rfl) (argsL := [(.long (own_v0_20 q0_0 q0_1 q0_2 q0_3 p0_4))]) (rest := [(.long (own_j3_0 (own_v0_19 q0_0 q0_1 q0_2 q0_3 p0_4))), (.long (own_j3_0 (own_v0_18 q0_0 q0_1 q0_2)))]) (lenOf own_pd3 rfl) rfl (by show 2 * 0 + _ ≤ _; exact Nat.le_of_eq rfl) (hb hby at_249) (fun _ _ => ⟨rfl, ek0_20, (by decide : 0 + 0 ≤ _), (by decide : 0 + 0 ≤ _)⟩)
    dsimp only [Pt.U, Pt.locs, Pt.cells, Pt.slots] at Xk0_21 lk0_21 yk0_21 zk0_21 stk0_21 hQk0_21
    subst lk0_21 yk0_21 zk0_21
    obtain ⟨rfl, Nk0_21q, ek0_21⟩ := hQk0_21
    have Nk0_21 := Fr.app Nk0_20 Nk0_21q
    obtain ⟨_, _, ⟨Tk0_22, Lk0_22, kk0_22, nk0_22⟩, -, Xk0_22, ⟨Lck0_22, hQk0_22, lk0_22, yk0_22, zk0_22⟩, stk0_22⟩ := Jvm.LawKit.callS Xk0_21 hx (y := (⟨"java/lang/Math", "abs", "(J)J"⟩ : MethodName)) hown (mvT hZ (hw _ (List.mem_of_getElem? (i := 7) rfl))) (mvT hZ (hw _ (List.mem_of_getElem? (i := 8) rfl))) (mvT hZ (hw _ (List.mem_of_getElem? (i := 9) rfl))) (mvT hZ (hw _ (List.mem_of_getElem? (i := 10) rfl))) (by decide) (backOf (W := 4) (own_rm3 l Z a0 hw [] (own_v0_21 q0_0 q0_1 q0_2 q0_3 p0_4) h0 n0 Z0) hZ (hw _ (List.mem_of_getElem? (i := 10) rfl)) (hw _ (List.mem_of_getElem? (i := 9) rfl)) (by decide) (by decide)) (g := (mkF m 255 #[.val (.long q0_0), .second, .val (.long q0_1), .second, .val (.long q0_2), .second, .val (.long q0_3), .second, .val (.int p0_4), .val (.long (own_v0_0 q0_0)), .second, .val (.long (own_v0_1 q0_0)), .second, .val (.long (own_v0_2 q0_1)), .second, .val (.long (own_v0_3 q0_1)), .second, .val (.long (own_v0_4 q0_2)), .second, .val (.long (own_v0_5 q0_2)), .second, .val (.int (p0_4 &&& (3 : Int32))), .val (.long (own_j0_16 q0_0 q0_1 q0_2 q0_3 p0_4)), .second, .val (.long (own_j0_17 q0_0 q0_1 q0_2 q0_3 p0_4)), .second, .val (.long (own_v0_18 q0_0 q0_1 q0_2)), .second, .val (.long (own_v0_19 q0_0 q0_1 q0_2 q0_3 p0_4)), .second, .val (.long (own_v0_20 q0_0 q0_1 q0_2 q0_3 p0_4)), .second, .val (.long (own_v0_21 q0_0 q0_1 q0_2 q0_3 p0_4)), .second, .unset, .unset] [(.long (own_v0_21 q0_0 q0_1 q0_2 q0_3 p0_4)), (.long ((own_j3_0 (own_v0_19 q0_0 q0_1 q0_2 q0_3 p0_4)) + (own_j3_0 (own_v0_20 q0_0 q0_1 q0_2 q0_3 p0_4)))), (.long (own_j3_0 (own_v0_18 q0_0 q0_1 q0_2)))])) rfl (by rw [hml]; rfl) (argsL := [(.long (own_v0_21 q0_0 q0_1 q0_2 q0_3 p0_4))]) (rest := [(.long ((own_j3_0 (own_v0_19 q0_0 q0_1 q0_2 q0_3 p0_4)) + (own_j3_0 (own_v0_20 q0_0 q0_1 q0_2 q0_3 p0_4)))), (.long (own_j3_0 (own_v0_18 q0_0 q0_1 q0_2)))]) (lenOf own_pd3 rfl) rfl (by show 2 * 0 + _ ≤ _; exact Nat.le_of_eq rfl) (hb hby at_255) (fun _ _ => ⟨rfl, ek0_21, (by decide : 0 + 0 ≤ _), (by decide : 0 + 0 ≤ _)⟩)
    dsimp only [Pt.U, Pt.locs, Pt.cells, Pt.slots] at Xk0_22 lk0_22 yk0_22 zk0_22 stk0_22 hQk0_22
    subst lk0_22 yk0_22 zk0_22
    obtain ⟨rfl, Nk0_22q, ek0_22⟩ := hQk0_22
    have Nk0_22 := Fr.app Nk0_21 Nk0_22q
    obtain ⟨Tj0_23, lj0_23, Xj0_23, Nj0_23, ej0_23, stj0_23⟩ : ∃ (T' : State) (l' : List Loc), Stand p l e room_1 s m #[(.long q0_0), (.long q0_1), (.long q0_2), (.long q0_3), (.int p0_4)] below meth c T' l' 0 0 ∧ Fr n0 l' ∧ T'.heap = h0 ∧ ∀ target, Steps p.tables e below (T'.setTop (mkF m 268 #[.val (.long q0_0), .second, .val (.long q0_1), .second, .val (.long q0_2), .second, .val (.long q0_3), .second, .val (.int p0_4), .val (.long (own_v0_0 q0_0)), .second, .val (.long (own_v0_1 q0_0)), .second, .val (.long (own_v0_2 q0_1)), .second, .val (.long (own_v0_3 q0_1)), .second, .val (.long (own_v0_4 q0_2)), .second, .val (.long (own_v0_5 q0_2)), .second, .val (.int (p0_4 &&& (3 : Int32))), .val (.long (own_j0_16 q0_0 q0_1 q0_2 q0_3 p0_4)), .second, .val (.long (own_j0_17 q0_0 q0_1 q0_2 q0_3 p0_4)), .second, .val (.long (own_v0_18 q0_0 q0_1 q0_2)), .second, .val (.long (own_v0_19 q0_0 q0_1 q0_2 q0_3 p0_4)), .second, .val (.long (own_v0_20 q0_0 q0_1 q0_2 q0_3 p0_4)), .second, .val (.long (own_v0_21 q0_0 q0_1 q0_2 q0_3 p0_4)), .second, .unset, .unset] [(.int (own_j0_22 q0_0 q0_1 q0_2 q0_3 p0_4))])) target → Steps p.tables e below (Tk0_22.setTop (mkF m 260 #[.val (.long q0_0), .second, .val (.long q0_1), .second, .val (.long q0_2), .second, .val (.long q0_3), .second, .val (.int p0_4), .val (.long (own_v0_0 q0_0)), .second, .val (.long (own_v0_1 q0_0)), .second, .val (.long (own_v0_2 q0_1)), .second, .val (.long (own_v0_3 q0_1)), .second, .val (.long (own_v0_4 q0_2)), .second, .val (.long (own_v0_5 q0_2)), .second, .val (.int (p0_4 &&& (3 : Int32))), .val (.long (own_j0_16 q0_0 q0_1 q0_2 q0_3 p0_4)), .second, .val (.long (own_j0_17 q0_0 q0_1 q0_2 q0_3 p0_4)), .second, .val (.long (own_v0_18 q0_0 q0_1 q0_2)), .second, .val (.long (own_v0_19 q0_0 q0_1 q0_2 q0_3 p0_4)), .second, .val (.long (own_v0_20 q0_0 q0_1 q0_2 q0_3 p0_4)), .second, .val (.long (own_v0_21 q0_0 q0_1 q0_2 q0_3 p0_4)), .second, .unset, .unset] [(.int (XT.cmpL (own_j3_0 (own_v0_18 q0_0 q0_1 q0_2)) (((own_j3_0 (own_v0_19 q0_0 q0_1 q0_2 q0_3 p0_4)) + (own_j3_0 (own_v0_20 q0_0 q0_1 q0_2 q0_3 p0_4))) + (own_j3_0 (own_v0_21 q0_0 q0_1 q0_2 q0_3 p0_4)))))])) target := by
      by_cases hj0_23 : (own_j3_0 (own_v0_18 q0_0 q0_1 q0_2)) = (((own_j3_0 (own_v0_19 q0_0 q0_1 q0_2 q0_3 p0_4)) + (own_j3_0 (own_v0_20 q0_0 q0_1 q0_2 q0_3 p0_4))) + (own_j3_0 (own_v0_21 q0_0 q0_1 q0_2 q0_3 p0_4)))
      · refine ⟨_, _, Xk0_22, Nk0_22, ek0_22, fun target kt => ?_⟩
        rw [(show (own_j0_22 q0_0 q0_1 q0_2 q0_3 p0_4) = (1 : Int32) from if_pos hj0_23)] at kt
        show Steps p.tables e below (Tk0_22.setTop (mkF m 260 #[.val (.long q0_0), .second, .val (.long q0_1), .second, .val (.long q0_2), .second, .val (.long q0_3), .second, .val (.int p0_4), .val (.long (own_v0_0 q0_0)), .second, .val (.long (own_v0_1 q0_0)), .second, .val (.long (own_v0_2 q0_1)), .second, .val (.long (own_v0_3 q0_1)), .second, .val (.long (own_v0_4 q0_2)), .second, .val (.long (own_v0_5 q0_2)), .second, .val (.int (p0_4 &&& (3 : Int32))), .val (.long (own_j0_16 q0_0 q0_1 q0_2 q0_3 p0_4)), .second, .val (.long (own_j0_17 q0_0 q0_1 q0_2 q0_3 p0_4)), .second, .val (.long (own_v0_18 q0_0 q0_1 q0_2)), .second, .val (.long (own_v0_19 q0_0 q0_1 q0_2 q0_3 p0_4)), .second, .val (.long (own_v0_20 q0_0 q0_1 q0_2 q0_3 p0_4)), .second, .val (.long (own_v0_21 q0_0 q0_1 q0_2 q0_3 p0_4)), .second, .unset, .unset] [(.int (XT.cmpL (own_j3_0 (own_v0_18 q0_0 q0_1 q0_2)) (((own_j3_0 (own_v0_19 q0_0 q0_1 q0_2 q0_3 p0_4)) + (own_j3_0 (own_v0_20 q0_0 q0_1 q0_2 q0_3 p0_4))) + (own_j3_0 (own_v0_21 q0_0 q0_1 q0_2 q0_3 p0_4)))))])) _
        refine XS.ifNo Xk0_22.here hx rfl (hb hby at_260) rfl (XT.ll_ne_f hj0_23) ?_
        show Steps p.tables e below (Tk0_22.setTop (mkF m 263 #[.val (.long q0_0), .second, .val (.long q0_1), .second, .val (.long q0_2), .second, .val (.long q0_3), .second, .val (.int p0_4), .val (.long (own_v0_0 q0_0)), .second, .val (.long (own_v0_1 q0_0)), .second, .val (.long (own_v0_2 q0_1)), .second, .val (.long (own_v0_3 q0_1)), .second, .val (.long (own_v0_4 q0_2)), .second, .val (.long (own_v0_5 q0_2)), .second, .val (.int (p0_4 &&& (3 : Int32))), .val (.long (own_j0_16 q0_0 q0_1 q0_2 q0_3 p0_4)), .second, .val (.long (own_j0_17 q0_0 q0_1 q0_2 q0_3 p0_4)), .second, .val (.long (own_v0_18 q0_0 q0_1 q0_2)), .second, .val (.long (own_v0_19 q0_0 q0_1 q0_2 q0_3 p0_4)), .second, .val (.long (own_v0_20 q0_0 q0_1 q0_2 q0_3 p0_4)), .second, .val (.long (own_v0_21 q0_0 q0_1 q0_2 q0_3 p0_4)), .second, .unset, .unset] [])) _
        refine XS.iconst Xk0_22.here hx rfl (hb hby at_263) ?_
        show Steps p.tables e below (Tk0_22.setTop (mkF m 264 #[.val (.long q0_0), .second, .val (.long q0_1), .second, .val (.long q0_2), .second, .val (.long q0_3), .second, .val (.int p0_4), .val (.long (own_v0_0 q0_0)), .second, .val (.long (own_v0_1 q0_0)), .second, .val (.long (own_v0_2 q0_1)), .second, .val (.long (own_v0_3 q0_1)), .second, .val (.long (own_v0_4 q0_2)), .second, .val (.long (own_v0_5 q0_2)), .second, .val (.int (p0_4 &&& (3 : Int32))), .val (.long (own_j0_16 q0_0 q0_1 q0_2 q0_3 p0_4)), .second, .val (.long (own_j0_17 q0_0 q0_1 q0_2 q0_3 p0_4)), .second, .val (.long (own_v0_18 q0_0 q0_1 q0_2)), .second, .val (.long (own_v0_19 q0_0 q0_1 q0_2 q0_3 p0_4)), .second, .val (.long (own_v0_20 q0_0 q0_1 q0_2 q0_3 p0_4)), .second, .val (.long (own_v0_21 q0_0 q0_1 q0_2 q0_3 p0_4)), .second, .unset, .unset] [(.int (1 : Int32))])) _
        refine XS.goto Xk0_22.here hx rfl (pc0 := 264) (pc' := 268) rfl (hb hby at_264) (by decide) (by decide) ?_
        exact kt
      · refine ⟨_, _, Xk0_22, Nk0_22, ek0_22, fun target kt => ?_⟩
        rw [(show (own_j0_22 q0_0 q0_1 q0_2 q0_3 p0_4) = (0 : Int32) from if_neg hj0_23)] at kt
        show Steps p.tables e below (Tk0_22.setTop (mkF m 260 #[.val (.long q0_0), .second, .val (.long q0_1), .second, .val (.long q0_2), .second, .val (.long q0_3), .second, .val (.int p0_4), .val (.long (own_v0_0 q0_0)), .second, .val (.long (own_v0_1 q0_0)), .second, .val (.long (own_v0_2 q0_1)), .second, .val (.long (own_v0_3 q0_1)), .second, .val (.long (own_v0_4 q0_2)), .second, .val (.long (own_v0_5 q0_2)), .second, .val (.int (p0_4 &&& (3 : Int32))), .val (.long (own_j0_16 q0_0 q0_1 q0_2 q0_3 p0_4)), .second, .val (.long (own_j0_17 q0_0 q0_1 q0_2 q0_3 p0_4)), .second, .val (.long (own_v0_18 q0_0 q0_1 q0_2)), .second, .val (.long (own_v0_19 q0_0 q0_1 q0_2 q0_3 p0_4)), .second, .val (.long (own_v0_20 q0_0 q0_1 q0_2 q0_3 p0_4)), .second, .val (.long (own_v0_21 q0_0 q0_1 q0_2 q0_3 p0_4)), .second, .unset, .unset] [(.int (XT.cmpL (own_j3_0 (own_v0_18 q0_0 q0_1 q0_2)) (((own_j3_0 (own_v0_19 q0_0 q0_1 q0_2 q0_3 p0_4)) + (own_j3_0 (own_v0_20 q0_0 q0_1 q0_2 q0_3 p0_4))) + (own_j3_0 (own_v0_21 q0_0 q0_1 q0_2 q0_3 p0_4)))))])) _
        refine XS.ifYes Xk0_22.here hx rfl (pc0 := 260) (pc' := 267) rfl (hb hby at_260) rfl (XT.ll_ne_t hj0_23) (by decide) (by decide) ?_
        show Steps p.tables e below (Tk0_22.setTop (mkF m 267 #[.val (.long q0_0), .second, .val (.long q0_1), .second, .val (.long q0_2), .second, .val (.long q0_3), .second, .val (.int p0_4), .val (.long (own_v0_0 q0_0)), .second, .val (.long (own_v0_1 q0_0)), .second, .val (.long (own_v0_2 q0_1)), .second, .val (.long (own_v0_3 q0_1)), .second, .val (.long (own_v0_4 q0_2)), .second, .val (.long (own_v0_5 q0_2)), .second, .val (.int (p0_4 &&& (3 : Int32))), .val (.long (own_j0_16 q0_0 q0_1 q0_2 q0_3 p0_4)), .second, .val (.long (own_j0_17 q0_0 q0_1 q0_2 q0_3 p0_4)), .second, .val (.long (own_v0_18 q0_0 q0_1 q0_2)), .second, .val (.long (own_v0_19 q0_0 q0_1 q0_2 q0_3 p0_4)), .second, .val (.long (own_v0_20 q0_0 q0_1 q0_2 q0_3 p0_4)), .second, .val (.long (own_v0_21 q0_0 q0_1 q0_2 q0_3 p0_4)), .second, .unset, .unset] [])) _
        refine XS.iconst Xk0_22.here hx rfl (hb hby at_267) ?_
        exact kt
    obtain ⟨Tn0_24, hn0_24, Xn0_24, en0_24, En0_24, An0_24, Dn0_24, -, stn0_24⟩ := newO Xj0_23 hx hZ hown (hw _ (List.mem_of_getElem? (i := 11) rfl)) (hw _ (List.mem_of_getElem? (i := 12) rfl)) (hw _ (List.mem_of_getElem? (i := 13) rfl)) ej0_23 (g := (mkF m 270 #[.val (.long q0_0), .second, .val (.long q0_1), .second, .val (.long q0_2), .second, .val (.long q0_3), .second, .val (.int p0_4), .val (.long (own_v0_0 q0_0)), .second, .val (.long (own_v0_1 q0_0)), .second, .val (.long (own_v0_2 q0_1)), .second, .val (.long (own_v0_3 q0_1)), .second, .val (.long (own_v0_4 q0_2)), .second, .val (.long (own_v0_5 q0_2)), .second, .val (.int (p0_4 &&& (3 : Int32))), .val (.long (own_j0_16 q0_0 q0_1 q0_2 q0_3 p0_4)), .second, .val (.long (own_j0_17 q0_0 q0_1 q0_2 q0_3 p0_4)), .second, .val (.long (own_v0_18 q0_0 q0_1 q0_2)), .second, .val (.long (own_v0_19 q0_0 q0_1 q0_2 q0_3 p0_4)), .second, .val (.long (own_v0_20 q0_0 q0_1 q0_2 q0_3 p0_4)), .second, .val (.long (own_v0_21 q0_0 q0_1 q0_2 q0_3 p0_4)), .second, .val (.int (own_j0_22 q0_0 q0_1 q0_2 q0_3 p0_4)), .unset] [])) rfl (hb hby at_270) (by decide) (by decide)
    obtain ⟨bn0_24, gn0_24⟩ : ∃ z, z = h0.size := ⟨_, rfl⟩
    rw [← gn0_24] at An0_24 Dn0_24 stn0_24
    have g_bn0_24 : n0 ≤ bn0_24 := Nat.le_trans Z0 (Nat.le_of_eq gn0_24.symm)
    have sz_bn0_24 : h0.size ≤ bn0_24 := Nat.le_trans Zr (Nat.le_of_eq gn0_24.symm)
    have sz0_25 : h0.size ≤ hn0_24.size := Nat.le_trans Zr En0_24.1
    have F_xs_bn0_24 : Fld Z hn0_24 bn0_24 "com/example/wideberth/wideberth/maximin/Triangle" "xs" "[D" .null := Dn0_24 (Or.inr (hw _ (List.mem_of_getElem? (i := 22) rfl))) (ty := (.array .double)) (by decide)
    have F_ys_bn0_24 : Fld Z hn0_24 bn0_24 "com/example/wideberth/wideberth/maximin/Triangle" "ys" "[D" .null := Dn0_24 (Or.inr (hw _ (List.mem_of_getElem? (i := 24) rfl))) (ty := (.array .double)) (by decide)
    obtain ⟨_, _, ⟨Tk0_26, Lk0_26, kk0_26, nk0_26⟩, -, Xk0_26, ⟨Lck0_26, hQk0_26, lk0_26, yk0_26, zk0_26⟩, stk0_26⟩ := Xn0_24.specialBack hx (y := (⟨"com/example/wideberth/wideberth/maximin/Triangle", "<init>", "(DDDDDD)V"⟩ : MethodName)) rfl hown (mvT hZ (hw _ (List.mem_of_getElem? (i := 14) rfl))) (mvT hZ (hw _ (List.mem_of_getElem? (i := 15) rfl))) (mvT hZ (hw _ (List.mem_of_getElem? (i := 16) rfl))) (by decide) (backOf (W := 1) (own_rm4 l Z a0 hw [] bn0_24 (FP.l2d (own_v0_0 q0_0)) (FP.l2d (own_v0_1 q0_0)) (FP.l2d (own_v0_2 q0_1)) (FP.l2d (own_v0_3 q0_1)) (FP.l2d (own_v0_4 q0_2)) (FP.l2d (own_v0_5 q0_2)) .null .null hn0_24 n0 (Nat.le_trans Z0 sz0_25) An0_24 F_xs_bn0_24 g_bn0_24 F_ys_bn0_24) hZ (hw _ (List.mem_of_getElem? (i := 16) rfl)) (hw _ (List.mem_of_getElem? (i := 13) rfl)) (by decide) (by decide)) (g := (mkF m 292 #[.val (.long q0_0), .second, .val (.long q0_1), .second, .val (.long q0_2), .second, .val (.long q0_3), .second, .val (.int p0_4), .val (.long (own_v0_0 q0_0)), .second, .val (.long (own_v0_1 q0_0)), .second, .val (.long (own_v0_2 q0_1)), .second, .val (.long (own_v0_3 q0_1)), .second, .val (.long (own_v0_4 q0_2)), .second, .val (.long (own_v0_5 q0_2)), .second, .val (.int (p0_4 &&& (3 : Int32))), .val (.long (own_j0_16 q0_0 q0_1 q0_2 q0_3 p0_4)), .second, .val (.long (own_j0_17 q0_0 q0_1 q0_2 q0_3 p0_4)), .second, .val (.long (own_v0_18 q0_0 q0_1 q0_2)), .second, .val (.long (own_v0_19 q0_0 q0_1 q0_2 q0_3 p0_4)), .second, .val (.long (own_v0_20 q0_0 q0_1 q0_2 q0_3 p0_4)), .second, .val (.long (own_v0_21 q0_0 q0_1 q0_2 q0_3 p0_4)), .second, .val (.int (own_j0_22 q0_0 q0_1 q0_2 q0_3 p0_4)), .unset] [(.double (FP.l2d (own_v0_5 q0_2))), (.double (FP.l2d (own_v0_4 q0_2))), (.double (FP.l2d (own_v0_3 q0_1))), (.double (FP.l2d (own_v0_2 q0_1))), (.double (FP.l2d (own_v0_1 q0_0))), (.double (FP.l2d (own_v0_0 q0_0))), (.ref bn0_24), (.ref bn0_24)])) rfl (by rw [hml]; rfl) (Steps.refl _) (a := bn0_24) (argsL := [(.double (FP.l2d (own_v0_0 q0_0))), (.double (FP.l2d (own_v0_1 q0_0))), (.double (FP.l2d (own_v0_2 q0_1))), (.double (FP.l2d (own_v0_3 q0_1))), (.double (FP.l2d (own_v0_4 q0_2))), (.double (FP.l2d (own_v0_5 q0_2)))]) (rest := [(.ref bn0_24)]) (lenOf own_pd4 rfl) rfl (by show 2 * 0 + _ ≤ _; exact Nat.le_of_eq rfl) (hb hby at_292) (fun _ _ => ⟨rfl, en0_24, (by decide : 1 + 2 ≤ _), (by decide : 2 + 6 ≤ _)⟩)
    dsimp only [Pt.U, Pt.locs, Pt.cells, Pt.slots] at Xk0_26 lk0_26 yk0_26 zk0_26 stk0_26 hQk0_26
    subst lk0_26 yk0_26 zk0_26
    obtain ⟨bk0_26_0, kk0_26_1, bk0_26_2, kk0_26_3, rfl, Nk0_26q, Kk0_26, lebk0_26_0, lebk0_26_2, nek0_26_0, Qk0_26_0, Qk0_26_1, Qk0_26_2, Qk0_26_3, Qk0_26_4⟩ := hQk0_26
    have g_bk0_26_0 : n0 ≤ bk0_26_0 := Nat.le_trans (Nat.le_trans Z0 sz0_25) lebk0_26_0
    have sz_bk0_26_0 : h0.size ≤ bk0_26_0 := Nat.le_trans sz0_25 lebk0_26_0
    have g_bk0_26_2 : n0 ≤ bk0_26_2 := Nat.le_trans (Nat.le_trans Z0 sz0_25) lebk0_26_2
    have sz_bk0_26_2 : h0.size ≤ bk0_26_2 := Nat.le_trans sz0_25 lebk0_26_2
    have sz0_27 : h0.size ≤ Tk0_26.heap.size := Nat.le_trans sz0_25 Kk0_26.1
    have Nk0_26 := Fr.app Nj0_23 Nk0_26q
    obtain ⟨cqk0_28, kqk0_28, qk0_28a, qk0_28b, qk0_28c⟩ := isOf hZ rfl Qk0_26_0
    obtain ⟨_, _, ⟨Tk0_28, Lk0_28, kk0_28, nk0_28⟩, -, Xk0_28, ⟨Lck0_28, hQk0_28, lk0_28, yk0_28, zk0_28⟩, stk0_28⟩ := Xk0_26.virtualBack hx (y := (⟨"com/example/wideberth/wideberth/maximin/Triangle", "contains", "(DD)Z"⟩ : MethodName)) (z := (⟨"com/example/wideberth/wideberth/maximin/Triangle", "contains", "(DD)Z"⟩ : MethodName)) hown (mvT hZ (hw _ (List.mem_of_getElem? (i := 25) rfl))) (mvT hZ (hw _ (List.mem_of_getElem? (i := 26) rfl))) (notFace_of_selects (args := #[]) (mvT hZ (hw _ (List.mem_of_getElem? (i := 28) rfl)))) (mvT hZ (hw _ (List.mem_of_getElem? (i := 28) rfl))) (mvT hZ (hw _ (List.mem_of_getElem? (i := 27) rfl))) (by decide) (backOf (W := 0) (own_rm6 l Z a0 hw [] bn0_24 (FP.l2d (own_j0_16 q0_0 q0_1 q0_2 q0_3 p0_4)) (FP.l2d (own_j0_17 q0_0 q0_1 q0_2 q0_3 p0_4)) bk0_26_0 kk0_26_1 (FP.l2d (own_v0_0 q0_0)) (FP.l2d (own_v0_2 q0_1)) (FP.l2d (own_v0_4 q0_2)) bk0_26_2 kk0_26_3 (FP.l2d (own_v0_1 q0_0)) (FP.l2d (own_v0_3 q0_1)) (FP.l2d (own_v0_5 q0_2)) Tk0_26.heap n0 (Nat.le_trans Z0 sz0_27) Qk0_26_1 Qk0_26_3 Qk0_26_2 Qk0_26_4 Qk0_26_0 c305_c4_nn20 c305_c4_nn29 c305_c4_nn30 c305_c4_nn44 c305_c4_nn52 c305_c4_nn53 c305_c4_nn54 c305_c13_nn20 c305_c13_nn29 c305_c13_nn30 c305_c13_nn44 c305_c13_nn52 c305_c13_nn53 c305_c13_nn54 c305_c22_nn20 c305_c22_nn29 c305_c22_nn30 c305_c22_nn44 c305_c22_nn52 c305_c22_nn53 c305_c22_nn54) hZ (hw _ (List.mem_of_getElem? (i := 29) rfl)) (hw _ (List.mem_of_getElem? (i := 13) rfl)) (by decide) (by decide)) qk0_28a qk0_28c (g := (mkF m 305 #[.val (.long q0_0), .second, .val (.long q0_1), .second, .val (.long q0_2), .second, .val (.long q0_3), .second, .val (.int p0_4), .val (.long (own_v0_0 q0_0)), .second, .val (.long (own_v0_1 q0_0)), .second, .val (.long (own_v0_2 q0_1)), .second, .val (.long (own_v0_3 q0_1)), .second, .val (.long (own_v0_4 q0_2)), .second, .val (.long (own_v0_5 q0_2)), .second, .val (.int (p0_4 &&& (3 : Int32))), .val (.long (own_j0_16 q0_0 q0_1 q0_2 q0_3 p0_4)), .second, .val (.long (own_j0_17 q0_0 q0_1 q0_2 q0_3 p0_4)), .second, .val (.long (own_v0_18 q0_0 q0_1 q0_2)), .second, .val (.long (own_v0_19 q0_0 q0_1 q0_2 q0_3 p0_4)), .second, .val (.long (own_v0_20 q0_0 q0_1 q0_2 q0_3 p0_4)), .second, .val (.long (own_v0_21 q0_0 q0_1 q0_2 q0_3 p0_4)), .second, .val (.int (own_j0_22 q0_0 q0_1 q0_2 q0_3 p0_4)), .val (.ref bn0_24)] [(.double (FP.l2d (own_j0_17 q0_0 q0_1 q0_2 q0_3 p0_4))), (.double (FP.l2d (own_j0_16 q0_0 q0_1 q0_2 q0_3 p0_4))), (.ref bn0_24)])) rfl (by rw [hml]; rfl) (Steps.refl _) (argsL := [(.double (FP.l2d (own_j0_16 q0_0 q0_1 q0_2 q0_3 p0_4))), (.double (FP.l2d (own_j0_17 q0_0 q0_1 q0_2 q0_3 p0_4)))]) (rest := []) (lenOf own_pd5 rfl) rfl (by show 2 * 0 + _ ≤ _; exact Nat.le_of_eq rfl) (hb hby at_305) (fun _ _ => ⟨rfl, rfl, (by decide : 3 + 0 ≤ _), (by decide : 8 + 0 ≤ _)⟩)
    dsimp only [Pt.U, Pt.locs, Pt.cells, Pt.slots] at Xk0_28 lk0_28 yk0_28 zk0_28 stk0_28 hQk0_28
    subst lk0_28 yk0_28 zk0_28
    obtain ⟨rfl, Nk0_28q, ek0_28⟩ := hQk0_28
    have Nk0_28 := Fr.app Nk0_26 Nk0_28q
    obtain ⟨fs, hr, hrun, hended, hW, hsame⟩ := Xk0_28.leave (v := some (.int (1 : Int32))) (fun h => by rw [Bd.returns] at h; cases h)
    refine ⟨_, _, pre0 _ (Ks0_13 _ (K0_15 _ (?_))), hrun, hended, _, _, rfl, ?_, ⟨_, rfl⟩, hW, hsame.mono (by decide) (by decide)⟩
    · show Steps p.tables e below (Tk0_12.setTop (mkF m 186 #[.val (.long q0_0), .second, .val (.long q0_1), .second, .val (.long q0_2), .second, .val (.long q0_3), .second, .val (.int p0_4), .val (.long (own_v0_0 q0_0)), .second, .val (.long (own_v0_1 q0_0)), .second, .val (.long (own_v0_2 q0_1)), .second, .val (.long (own_v0_3 q0_1)), .second, .val (.long (own_v0_4 q0_2)), .second, .val (.long (own_v0_5 q0_2)), .second, .val (.int (p0_4 &&& (3 : Int32))), .val (.long (own_j0_16 q0_0 q0_1 q0_2 q0_3 p0_4)), .second, .val (.long (own_j0_17 q0_0 q0_1 q0_2 q0_3 p0_4)), .second, .val (.long (own_v0_18 q0_0 q0_1 q0_2)), .second, .unset, .unset, .unset, .unset, .unset, .unset, .unset, .unset] [])) _
      refine XT.lload Xk0_12.here hx rfl (hb hby at_186) rfl ?_
      show Steps p.tables e below (Tk0_12.setTop (mkF m 188 #[.val (.long q0_0), .second, .val (.long q0_1), .second, .val (.long q0_2), .second, .val (.long q0_3), .second, .val (.int p0_4), .val (.long (own_v0_0 q0_0)), .second, .val (.long (own_v0_1 q0_0)), .second, .val (.long (own_v0_2 q0_1)), .second, .val (.long (own_v0_3 q0_1)), .second, .val (.long (own_v0_4 q0_2)), .second, .val (.long (own_v0_5 q0_2)), .second, .val (.int (p0_4 &&& (3 : Int32))), .val (.long (own_j0_16 q0_0 q0_1 q0_2 q0_3 p0_4)), .second, .val (.long (own_j0_17 q0_0 q0_1 q0_2 q0_3 p0_4)), .second, .val (.long (own_v0_18 q0_0 q0_1 q0_2)), .second, .unset, .unset, .unset, .unset, .unset, .unset, .unset, .unset] [(.long (own_v0_0 q0_0))])) _
      refine XT.lload Xk0_12.here hx rfl (hb hby at_188) rfl ?_
      show Steps p.tables e below (Tk0_12.setTop (mkF m 190 #[.val (.long q0_0), .second, .val (.long q0_1), .second, .val (.long q0_2), .second, .val (.long q0_3), .second, .val (.int p0_4), .val (.long (own_v0_0 q0_0)), .second, .val (.long (own_v0_1 q0_0)), .second, .val (.long (own_v0_2 q0_1)), .second, .val (.long (own_v0_3 q0_1)), .second, .val (.long (own_v0_4 q0_2)), .second, .val (.long (own_v0_5 q0_2)), .second, .val (.int (p0_4 &&& (3 : Int32))), .val (.long (own_j0_16 q0_0 q0_1 q0_2 q0_3 p0_4)), .second, .val (.long (own_j0_17 q0_0 q0_1 q0_2 q0_3 p0_4)), .second, .val (.long (own_v0_18 q0_0 q0_1 q0_2)), .second, .unset, .unset, .unset, .unset, .unset, .unset, .unset, .unset] [(.long (own_v0_1 q0_0)), (.long (own_v0_0 q0_0))])) _
      refine XT.lload Xk0_12.here hx rfl (hb hby at_190) rfl ?_
      show Steps p.tables e below (Tk0_12.setTop (mkF m 192 #[.val (.long q0_0), .second, .val (.long q0_1), .second, .val (.long q0_2), .second, .val (.long q0_3), .second, .val (.int p0_4), .val (.long (own_v0_0 q0_0)), .second, .val (.long (own_v0_1 q0_0)), .second, .val (.long (own_v0_2 q0_1)), .second, .val (.long (own_v0_3 q0_1)), .second, .val (.long (own_v0_4 q0_2)), .second, .val (.long (own_v0_5 q0_2)), .second, .val (.int (p0_4 &&& (3 : Int32))), .val (.long (own_j0_16 q0_0 q0_1 q0_2 q0_3 p0_4)), .second, .val (.long (own_j0_17 q0_0 q0_1 q0_2 q0_3 p0_4)), .second, .val (.long (own_v0_18 q0_0 q0_1 q0_2)), .second, .unset, .unset, .unset, .unset, .unset, .unset, .unset, .unset] [(.long (own_v0_2 q0_1)), (.long (own_v0_1 q0_0)), (.long (own_v0_0 q0_0))])) _
      refine XT.lload Xk0_12.here hx rfl (hb hby at_192) rfl ?_
      show Steps p.tables e below (Tk0_12.setTop (mkF m 194 #[.val (.long q0_0), .second, .val (.long q0_1), .second, .val (.long q0_2), .second, .val (.long q0_3), .second, .val (.int p0_4), .val (.long (own_v0_0 q0_0)), .second, .val (.long (own_v0_1 q0_0)), .second, .val (.long (own_v0_2 q0_1)), .second, .val (.long (own_v0_3 q0_1)), .second, .val (.long (own_v0_4 q0_2)), .second, .val (.long (own_v0_5 q0_2)), .second, .val (.int (p0_4 &&& (3 : Int32))), .val (.long (own_j0_16 q0_0 q0_1 q0_2 q0_3 p0_4)), .second, .val (.long (own_j0_17 q0_0 q0_1 q0_2 q0_3 p0_4)), .second, .val (.long (own_v0_18 q0_0 q0_1 q0_2)), .second, .unset, .unset, .unset, .unset, .unset, .unset, .unset, .unset] [(.long (own_v0_3 q0_1)), (.long (own_v0_2 q0_1)), (.long (own_v0_1 q0_0)), (.long (own_v0_0 q0_0))])) _
      refine XT.lload Xk0_12.here hx rfl (hb hby at_194) rfl ?_
      show Steps p.tables e below (Tk0_12.setTop (mkF m 196 #[.val (.long q0_0), .second, .val (.long q0_1), .second, .val (.long q0_2), .second, .val (.long q0_3), .second, .val (.int p0_4), .val (.long (own_v0_0 q0_0)), .second, .val (.long (own_v0_1 q0_0)), .second, .val (.long (own_v0_2 q0_1)), .second, .val (.long (own_v0_3 q0_1)), .second, .val (.long (own_v0_4 q0_2)), .second, .val (.long (own_v0_5 q0_2)), .second, .val (.int (p0_4 &&& (3 : Int32))), .val (.long (own_j0_16 q0_0 q0_1 q0_2 q0_3 p0_4)), .second, .val (.long (own_j0_17 q0_0 q0_1 q0_2 q0_3 p0_4)), .second, .val (.long (own_v0_18 q0_0 q0_1 q0_2)), .second, .unset, .unset, .unset, .unset, .unset, .unset, .unset, .unset] [(.long (own_j0_16 q0_0 q0_1 q0_2 q0_3 p0_4)), (.long (own_v0_3 q0_1)), (.long (own_v0_2 q0_1)), (.long (own_v0_1 q0_0)), (.long (own_v0_0 q0_0))])) _
      refine XT.lload Xk0_12.here hx rfl (hb hby at_196) rfl ?_
      show Steps p.tables e below (Tk0_12.setTop (mkF m 198 #[.val (.long q0_0), .second, .val (.long q0_1), .second, .val (.long q0_2), .second, .val (.long q0_3), .second, .val (.int p0_4), .val (.long (own_v0_0 q0_0)), .second, .val (.long (own_v0_1 q0_0)), .second, .val (.long (own_v0_2 q0_1)), .second, .val (.long (own_v0_3 q0_1)), .second, .val (.long (own_v0_4 q0_2)), .second, .val (.long (own_v0_5 q0_2)), .second, .val (.int (p0_4 &&& (3 : Int32))), .val (.long (own_j0_16 q0_0 q0_1 q0_2 q0_3 p0_4)), .second, .val (.long (own_j0_17 q0_0 q0_1 q0_2 q0_3 p0_4)), .second, .val (.long (own_v0_18 q0_0 q0_1 q0_2)), .second, .unset, .unset, .unset, .unset, .unset, .unset, .unset, .unset] [(.long (own_j0_17 q0_0 q0_1 q0_2 q0_3 p0_4)), (.long (own_j0_16 q0_0 q0_1 q0_2 q0_3 p0_4)), (.long (own_v0_3 q0_1)), (.long (own_v0_2 q0_1)), (.long (own_v0_1 q0_0)), (.long (own_v0_0 q0_0))])) _
      refine stk0_16 _ ?_
      show Steps p.tables e below (Tk0_16.setTop (mkF m 201 #[.val (.long q0_0), .second, .val (.long q0_1), .second, .val (.long q0_2), .second, .val (.long q0_3), .second, .val (.int p0_4), .val (.long (own_v0_0 q0_0)), .second, .val (.long (own_v0_1 q0_0)), .second, .val (.long (own_v0_2 q0_1)), .second, .val (.long (own_v0_3 q0_1)), .second, .val (.long (own_v0_4 q0_2)), .second, .val (.long (own_v0_5 q0_2)), .second, .val (.int (p0_4 &&& (3 : Int32))), .val (.long (own_j0_16 q0_0 q0_1 q0_2 q0_3 p0_4)), .second, .val (.long (own_j0_17 q0_0 q0_1 q0_2 q0_3 p0_4)), .second, .val (.long (own_v0_18 q0_0 q0_1 q0_2)), .second, .unset, .unset, .unset, .unset, .unset, .unset, .unset, .unset] [(.long (own_r2_0 (own_v0_0 q0_0) (own_v0_1 q0_0) (own_v0_2 q0_1) (own_v0_3 q0_1) (own_j0_16 q0_0 q0_1 q0_2 q0_3 p0_4) (own_j0_17 q0_0 q0_1 q0_2 q0_3 p0_4)))])) _
      refine XT.lstore Xk0_16.here hx rfl (hb hby at_201) rfl (l' := #[.val (.long q0_0), .second, .val (.long q0_1), .second, .val (.long q0_2), .second, .val (.long q0_3), .second, .val (.int p0_4), .val (.long (own_v0_0 q0_0)), .second, .val (.long (own_v0_1 q0_0)), .second, .val (.long (own_v0_2 q0_1)), .second, .val (.long (own_v0_3 q0_1)), .second, .val (.long (own_v0_4 q0_2)), .second, .val (.long (own_v0_5 q0_2)), .second, .val (.int (p0_4 &&& (3 : Int32))), .val (.long (own_j0_16 q0_0 q0_1 q0_2 q0_3 p0_4)), .second, .val (.long (own_j0_17 q0_0 q0_1 q0_2 q0_3 p0_4)), .second, .val (.long (own_v0_18 q0_0 q0_1 q0_2)), .second, .val (.long (own_v0_19 q0_0 q0_1 q0_2 q0_3 p0_4)), .second, .unset, .unset, .unset, .unset, .unset, .unset]) rfl ?_
      show Steps p.tables e below (Tk0_16.setTop (mkF m 203 #[.val (.long q0_0), .second, .val (.long q0_1), .second, .val (.long q0_2), .second, .val (.long q0_3), .second, .val (.int p0_4), .val (.long (own_v0_0 q0_0)), .second, .val (.long (own_v0_1 q0_0)), .second, .val (.long (own_v0_2 q0_1)), .second, .val (.long (own_v0_3 q0_1)), .second, .val (.long (own_v0_4 q0_2)), .second, .val (.long (own_v0_5 q0_2)), .second, .val (.int (p0_4 &&& (3 : Int32))), .val (.long (own_j0_16 q0_0 q0_1 q0_2 q0_3 p0_4)), .second, .val (.long (own_j0_17 q0_0 q0_1 q0_2 q0_3 p0_4)), .second, .val (.long (own_v0_18 q0_0 q0_1 q0_2)), .second, .val (.long (own_v0_19 q0_0 q0_1 q0_2 q0_3 p0_4)), .second, .unset, .unset, .unset, .unset, .unset, .unset] [])) _
      refine XT.lload Xk0_16.here hx rfl (hb hby at_203) rfl ?_
      show Steps p.tables e below (Tk0_16.setTop (mkF m 205 #[.val (.long q0_0), .second, .val (.long q0_1), .second, .val (.long q0_2), .second, .val (.long q0_3), .second, .val (.int p0_4), .val (.long (own_v0_0 q0_0)), .second, .val (.long (own_v0_1 q0_0)), .second, .val (.long (own_v0_2 q0_1)), .second, .val (.long (own_v0_3 q0_1)), .second, .val (.long (own_v0_4 q0_2)), .second, .val (.long (own_v0_5 q0_2)), .second, .val (.int (p0_4 &&& (3 : Int32))), .val (.long (own_j0_16 q0_0 q0_1 q0_2 q0_3 p0_4)), .second, .val (.long (own_j0_17 q0_0 q0_1 q0_2 q0_3 p0_4)), .second, .val (.long (own_v0_18 q0_0 q0_1 q0_2)), .second, .val (.long (own_v0_19 q0_0 q0_1 q0_2 q0_3 p0_4)), .second, .unset, .unset, .unset, .unset, .unset, .unset] [(.long (own_v0_2 q0_1))])) _
      refine XT.lload Xk0_16.here hx rfl (hb hby at_205) rfl ?_
      show Steps p.tables e below (Tk0_16.setTop (mkF m 207 #[.val (.long q0_0), .second, .val (.long q0_1), .second, .val (.long q0_2), .second, .val (.long q0_3), .second, .val (.int p0_4), .val (.long (own_v0_0 q0_0)), .second, .val (.long (own_v0_1 q0_0)), .second, .val (.long (own_v0_2 q0_1)), .second, .val (.long (own_v0_3 q0_1)), .second, .val (.long (own_v0_4 q0_2)), .second, .val (.long (own_v0_5 q0_2)), .second, .val (.int (p0_4 &&& (3 : Int32))), .val (.long (own_j0_16 q0_0 q0_1 q0_2 q0_3 p0_4)), .second, .val (.long (own_j0_17 q0_0 q0_1 q0_2 q0_3 p0_4)), .second, .val (.long (own_v0_18 q0_0 q0_1 q0_2)), .second, .val (.long (own_v0_19 q0_0 q0_1 q0_2 q0_3 p0_4)), .second, .unset, .unset, .unset, .unset, .unset, .unset] [(.long (own_v0_3 q0_1)), (.long (own_v0_2 q0_1))])) _
      refine XT.lload Xk0_16.here hx rfl (hb hby at_207) rfl ?_
      show Steps p.tables e below (Tk0_16.setTop (mkF m 209 #[.val (.long q0_0), .second, .val (.long q0_1), .second, .val (.long q0_2), .second, .val (.long q0_3), .second, .val (.int p0_4), .val (.long (own_v0_0 q0_0)), .second, .val (.long (own_v0_1 q0_0)), .second, .val (.long (own_v0_2 q0_1)), .second, .val (.long (own_v0_3 q0_1)), .second, .val (.long (own_v0_4 q0_2)), .second, .val (.long (own_v0_5 q0_2)), .second, .val (.int (p0_4 &&& (3 : Int32))), .val (.long (own_j0_16 q0_0 q0_1 q0_2 q0_3 p0_4)), .second, .val (.long (own_j0_17 q0_0 q0_1 q0_2 q0_3 p0_4)), .second, .val (.long (own_v0_18 q0_0 q0_1 q0_2)), .second, .val (.long (own_v0_19 q0_0 q0_1 q0_2 q0_3 p0_4)), .second, .unset, .unset, .unset, .unset, .unset, .unset] [(.long (own_v0_4 q0_2)), (.long (own_v0_3 q0_1)), (.long (own_v0_2 q0_1))])) _
      refine XT.lload Xk0_16.here hx rfl (hb hby at_209) rfl ?_
      show Steps p.tables e below (Tk0_16.setTop (mkF m 211 #[.val (.long q0_0), .second, .val (.long q0_1), .second, .val (.long q0_2), .second, .val (.long q0_3), .second, .val (.int p0_4), .val (.long (own_v0_0 q0_0)), .second, .val (.long (own_v0_1 q0_0)), .second, .val (.long (own_v0_2 q0_1)), .second, .val (.long (own_v0_3 q0_1)), .second, .val (.long (own_v0_4 q0_2)), .second, .val (.long (own_v0_5 q0_2)), .second, .val (.int (p0_4 &&& (3 : Int32))), .val (.long (own_j0_16 q0_0 q0_1 q0_2 q0_3 p0_4)), .second, .val (.long (own_j0_17 q0_0 q0_1 q0_2 q0_3 p0_4)), .second, .val (.long (own_v0_18 q0_0 q0_1 q0_2)), .second, .val (.long (own_v0_19 q0_0 q0_1 q0_2 q0_3 p0_4)), .second, .unset, .unset, .unset, .unset, .unset, .unset] [(.long (own_v0_5 q0_2)), (.long (own_v0_4 q0_2)), (.long (own_v0_3 q0_1)), (.long (own_v0_2 q0_1))])) _
      refine XT.lload Xk0_16.here hx rfl (hb hby at_211) rfl ?_
      show Steps p.tables e below (Tk0_16.setTop (mkF m 213 #[.val (.long q0_0), .second, .val (.long q0_1), .second, .val (.long q0_2), .second, .val (.long q0_3), .second, .val (.int p0_4), .val (.long (own_v0_0 q0_0)), .second, .val (.long (own_v0_1 q0_0)), .second, .val (.long (own_v0_2 q0_1)), .second, .val (.long (own_v0_3 q0_1)), .second, .val (.long (own_v0_4 q0_2)), .second, .val (.long (own_v0_5 q0_2)), .second, .val (.int (p0_4 &&& (3 : Int32))), .val (.long (own_j0_16 q0_0 q0_1 q0_2 q0_3 p0_4)), .second, .val (.long (own_j0_17 q0_0 q0_1 q0_2 q0_3 p0_4)), .second, .val (.long (own_v0_18 q0_0 q0_1 q0_2)), .second, .val (.long (own_v0_19 q0_0 q0_1 q0_2 q0_3 p0_4)), .second, .unset, .unset, .unset, .unset, .unset, .unset] [(.long (own_j0_16 q0_0 q0_1 q0_2 q0_3 p0_4)), (.long (own_v0_5 q0_2)), (.long (own_v0_4 q0_2)), (.long (own_v0_3 q0_1)), (.long (own_v0_2 q0_1))])) _
      refine XT.lload Xk0_16.here hx rfl (hb hby at_213) rfl ?_
      show Steps p.tables e below (Tk0_16.setTop (mkF m 215 #[.val (.long q0_0), .second, .val (.long q0_1), .second, .val (.long q0_2), .second, .val (.long q0_3), .second, .val (.int p0_4), .val (.long (own_v0_0 q0_0)), .second, .val (.long (own_v0_1 q0_0)), .second, .val (.long (own_v0_2 q0_1)), .second, .val (.long (own_v0_3 q0_1)), .second, .val (.long (own_v0_4 q0_2)), .second, .val (.long (own_v0_5 q0_2)), .second, .val (.int (p0_4 &&& (3 : Int32))), .val (.long (own_j0_16 q0_0 q0_1 q0_2 q0_3 p0_4)), .second, .val (.long (own_j0_17 q0_0 q0_1 q0_2 q0_3 p0_4)), .second, .val (.long (own_v0_18 q0_0 q0_1 q0_2)), .second, .val (.long (own_v0_19 q0_0 q0_1 q0_2 q0_3 p0_4)), .second, .unset, .unset, .unset, .unset, .unset, .unset] [(.long (own_j0_17 q0_0 q0_1 q0_2 q0_3 p0_4)), (.long (own_j0_16 q0_0 q0_1 q0_2 q0_3 p0_4)), (.long (own_v0_5 q0_2)), (.long (own_v0_4 q0_2)), (.long (own_v0_3 q0_1)), (.long (own_v0_2 q0_1))])) _
      refine stk0_17 _ ?_
      show Steps p.tables e below (Tk0_17.setTop (mkF m 218 #[.val (.long q0_0), .second, .val (.long q0_1), .second, .val (.long q0_2), .second, .val (.long q0_3), .second, .val (.int p0_4), .val (.long (own_v0_0 q0_0)), .second, .val (.long (own_v0_1 q0_0)), .second, .val (.long (own_v0_2 q0_1)), .second, .val (.long (own_v0_3 q0_1)), .second, .val (.long (own_v0_4 q0_2)), .second, .val (.long (own_v0_5 q0_2)), .second, .val (.int (p0_4 &&& (3 : Int32))), .val (.long (own_j0_16 q0_0 q0_1 q0_2 q0_3 p0_4)), .second, .val (.long (own_j0_17 q0_0 q0_1 q0_2 q0_3 p0_4)), .second, .val (.long (own_v0_18 q0_0 q0_1 q0_2)), .second, .val (.long (own_v0_19 q0_0 q0_1 q0_2 q0_3 p0_4)), .second, .unset, .unset, .unset, .unset, .unset, .unset] [(.long (own_r2_0 (own_v0_2 q0_1) (own_v0_3 q0_1) (own_v0_4 q0_2) (own_v0_5 q0_2) (own_j0_16 q0_0 q0_1 q0_2 q0_3 p0_4) (own_j0_17 q0_0 q0_1 q0_2 q0_3 p0_4)))])) _
      refine XT.lstore Xk0_17.here hx rfl (hb hby at_218) rfl (l' := #[.val (.long q0_0), .second, .val (.long q0_1), .second, .val (.long q0_2), .second, .val (.long q0_3), .second, .val (.int p0_4), .val (.long (own_v0_0 q0_0)), .second, .val (.long (own_v0_1 q0_0)), .second, .val (.long (own_v0_2 q0_1)), .second, .val (.long (own_v0_3 q0_1)), .second, .val (.long (own_v0_4 q0_2)), .second, .val (.long (own_v0_5 q0_2)), .second, .val (.int (p0_4 &&& (3 : Int32))), .val (.long (own_j0_16 q0_0 q0_1 q0_2 q0_3 p0_4)), .second, .val (.long (own_j0_17 q0_0 q0_1 q0_2 q0_3 p0_4)), .second, .val (.long (own_v0_18 q0_0 q0_1 q0_2)), .second, .val (.long (own_v0_19 q0_0 q0_1 q0_2 q0_3 p0_4)), .second, .val (.long (own_v0_20 q0_0 q0_1 q0_2 q0_3 p0_4)), .second, .unset, .unset, .unset, .unset]) rfl ?_
      show Steps p.tables e below (Tk0_17.setTop (mkF m 220 #[.val (.long q0_0), .second, .val (.long q0_1), .second, .val (.long q0_2), .second, .val (.long q0_3), .second, .val (.int p0_4), .val (.long (own_v0_0 q0_0)), .second, .val (.long (own_v0_1 q0_0)), .second, .val (.long (own_v0_2 q0_1)), .second, .val (.long (own_v0_3 q0_1)), .second, .val (.long (own_v0_4 q0_2)), .second, .val (.long (own_v0_5 q0_2)), .second, .val (.int (p0_4 &&& (3 : Int32))), .val (.long (own_j0_16 q0_0 q0_1 q0_2 q0_3 p0_4)), .second, .val (.long (own_j0_17 q0_0 q0_1 q0_2 q0_3 p0_4)), .second, .val (.long (own_v0_18 q0_0 q0_1 q0_2)), .second, .val (.long (own_v0_19 q0_0 q0_1 q0_2 q0_3 p0_4)), .second, .val (.long (own_v0_20 q0_0 q0_1 q0_2 q0_3 p0_4)), .second, .unset, .unset, .unset, .unset] [])) _
      refine XT.lload Xk0_17.here hx rfl (hb hby at_220) rfl ?_
      show Steps p.tables e below (Tk0_17.setTop (mkF m 222 #[.val (.long q0_0), .second, .val (.long q0_1), .second, .val (.long q0_2), .second, .val (.long q0_3), .second, .val (.int p0_4), .val (.long (own_v0_0 q0_0)), .second, .val (.long (own_v0_1 q0_0)), .second, .val (.long (own_v0_2 q0_1)), .second, .val (.long (own_v0_3 q0_1)), .second, .val (.long (own_v0_4 q0_2)), .second, .val (.long (own_v0_5 q0_2)), .second, .val (.int (p0_4 &&& (3 : Int32))), .val (.long (own_j0_16 q0_0 q0_1 q0_2 q0_3 p0_4)), .second, .val (.long (own_j0_17 q0_0 q0_1 q0_2 q0_3 p0_4)), .second, .val (.long (own_v0_18 q0_0 q0_1 q0_2)), .second, .val (.long (own_v0_19 q0_0 q0_1 q0_2 q0_3 p0_4)), .second, .val (.long (own_v0_20 q0_0 q0_1 q0_2 q0_3 p0_4)), .second, .unset, .unset, .unset, .unset] [(.long (own_v0_4 q0_2))])) _
      refine XT.lload Xk0_17.here hx rfl (hb hby at_222) rfl ?_
      show Steps p.tables e below (Tk0_17.setTop (mkF m 224 #[.val (.long q0_0), .second, .val (.long q0_1), .second, .val (.long q0_2), .second, .val (.long q0_3), .second, .val (.int p0_4), .val (.long (own_v0_0 q0_0)), .second, .val (.long (own_v0_1 q0_0)), .second, .val (.long (own_v0_2 q0_1)), .second, .val (.long (own_v0_3 q0_1)), .second, .val (.long (own_v0_4 q0_2)), .second, .val (.long (own_v0_5 q0_2)), .second, .val (.int (p0_4 &&& (3 : Int32))), .val (.long (own_j0_16 q0_0 q0_1 q0_2 q0_3 p0_4)), .second, .val (.long (own_j0_17 q0_0 q0_1 q0_2 q0_3 p0_4)), .second, .val (.long (own_v0_18 q0_0 q0_1 q0_2)), .second, .val (.long (own_v0_19 q0_0 q0_1 q0_2 q0_3 p0_4)), .second, .val (.long (own_v0_20 q0_0 q0_1 q0_2 q0_3 p0_4)), .second, .unset, .unset, .unset, .unset] [(.long (own_v0_5 q0_2)), (.long (own_v0_4 q0_2))])) _
      refine XT.lload Xk0_17.here hx rfl (hb hby at_224) rfl ?_
      show Steps p.tables e below (Tk0_17.setTop (mkF m 226 #[.val (.long q0_0), .second, .val (.long q0_1), .second, .val (.long q0_2), .second, .val (.long q0_3), .second, .val (.int p0_4), .val (.long (own_v0_0 q0_0)), .second, .val (.long (own_v0_1 q0_0)), .second, .val (.long (own_v0_2 q0_1)), .second, .val (.long (own_v0_3 q0_1)), .second, .val (.long (own_v0_4 q0_2)), .second, .val (.long (own_v0_5 q0_2)), .second, .val (.int (p0_4 &&& (3 : Int32))), .val (.long (own_j0_16 q0_0 q0_1 q0_2 q0_3 p0_4)), .second, .val (.long (own_j0_17 q0_0 q0_1 q0_2 q0_3 p0_4)), .second, .val (.long (own_v0_18 q0_0 q0_1 q0_2)), .second, .val (.long (own_v0_19 q0_0 q0_1 q0_2 q0_3 p0_4)), .second, .val (.long (own_v0_20 q0_0 q0_1 q0_2 q0_3 p0_4)), .second, .unset, .unset, .unset, .unset] [(.long (own_v0_0 q0_0)), (.long (own_v0_5 q0_2)), (.long (own_v0_4 q0_2))])) _
      refine XT.lload Xk0_17.here hx rfl (hb hby at_226) rfl ?_
      show Steps p.tables e below (Tk0_17.setTop (mkF m 228 #[.val (.long q0_0), .second, .val (.long q0_1), .second, .val (.long q0_2), .second, .val (.long q0_3), .second, .val (.int p0_4), .val (.long (own_v0_0 q0_0)), .second, .val (.long (own_v0_1 q0_0)), .second, .val (.long (own_v0_2 q0_1)), .second, .val (.long (own_v0_3 q0_1)), .second, .val (.long (own_v0_4 q0_2)), .second, .val (.long (own_v0_5 q0_2)), .second, .val (.int (p0_4 &&& (3 : Int32))), .val (.long (own_j0_16 q0_0 q0_1 q0_2 q0_3 p0_4)), .second, .val (.long (own_j0_17 q0_0 q0_1 q0_2 q0_3 p0_4)), .second, .val (.long (own_v0_18 q0_0 q0_1 q0_2)), .second, .val (.long (own_v0_19 q0_0 q0_1 q0_2 q0_3 p0_4)), .second, .val (.long (own_v0_20 q0_0 q0_1 q0_2 q0_3 p0_4)), .second, .unset, .unset, .unset, .unset] [(.long (own_v0_1 q0_0)), (.long (own_v0_0 q0_0)), (.long (own_v0_5 q0_2)), (.long (own_v0_4 q0_2))])) _
      refine XT.lload Xk0_17.here hx rfl (hb hby at_228) rfl ?_
      show Steps p.tables e below (Tk0_17.setTop (mkF m 230 #[.val (.long q0_0), .second, .val (.long q0_1), .second, .val (.long q0_2), .second, .val (.long q0_3), .second, .val (.int p0_4), .val (.long (own_v0_0 q0_0)), .second, .val (.long (own_v0_1 q0_0)), .second, .val (.long (own_v0_2 q0_1)), .second, .val (.long (own_v0_3 q0_1)), .second, .val (.long (own_v0_4 q0_2)), .second, .val (.long (own_v0_5 q0_2)), .second, .val (.int (p0_4 &&& (3 : Int32))), .val (.long (own_j0_16 q0_0 q0_1 q0_2 q0_3 p0_4)), .second, .val (.long (own_j0_17 q0_0 q0_1 q0_2 q0_3 p0_4)), .second, .val (.long (own_v0_18 q0_0 q0_1 q0_2)), .second, .val (.long (own_v0_19 q0_0 q0_1 q0_2 q0_3 p0_4)), .second, .val (.long (own_v0_20 q0_0 q0_1 q0_2 q0_3 p0_4)), .second, .unset, .unset, .unset, .unset] [(.long (own_j0_16 q0_0 q0_1 q0_2 q0_3 p0_4)), (.long (own_v0_1 q0_0)), (.long (own_v0_0 q0_0)), (.long (own_v0_5 q0_2)), (.long (own_v0_4 q0_2))])) _
      refine XT.lload Xk0_17.here hx rfl (hb hby at_230) rfl ?_
      show Steps p.tables e below (Tk0_17.setTop (mkF m 232 #[.val (.long q0_0), .second, .val (.long q0_1), .second, .val (.long q0_2), .second, .val (.long q0_3), .second, .val (.int p0_4), .val (.long (own_v0_0 q0_0)), .second, .val (.long (own_v0_1 q0_0)), .second, .val (.long (own_v0_2 q0_1)), .second, .val (.long (own_v0_3 q0_1)), .second, .val (.long (own_v0_4 q0_2)), .second, .val (.long (own_v0_5 q0_2)), .second, .val (.int (p0_4 &&& (3 : Int32))), .val (.long (own_j0_16 q0_0 q0_1 q0_2 q0_3 p0_4)), .second, .val (.long (own_j0_17 q0_0 q0_1 q0_2 q0_3 p0_4)), .second, .val (.long (own_v0_18 q0_0 q0_1 q0_2)), .second, .val (.long (own_v0_19 q0_0 q0_1 q0_2 q0_3 p0_4)), .second, .val (.long (own_v0_20 q0_0 q0_1 q0_2 q0_3 p0_4)), .second, .unset, .unset, .unset, .unset] [(.long (own_j0_17 q0_0 q0_1 q0_2 q0_3 p0_4)), (.long (own_j0_16 q0_0 q0_1 q0_2 q0_3 p0_4)), (.long (own_v0_1 q0_0)), (.long (own_v0_0 q0_0)), (.long (own_v0_5 q0_2)), (.long (own_v0_4 q0_2))])) _
      refine stk0_18 _ ?_
      show Steps p.tables e below (Tk0_18.setTop (mkF m 235 #[.val (.long q0_0), .second, .val (.long q0_1), .second, .val (.long q0_2), .second, .val (.long q0_3), .second, .val (.int p0_4), .val (.long (own_v0_0 q0_0)), .second, .val (.long (own_v0_1 q0_0)), .second, .val (.long (own_v0_2 q0_1)), .second, .val (.long (own_v0_3 q0_1)), .second, .val (.long (own_v0_4 q0_2)), .second, .val (.long (own_v0_5 q0_2)), .second, .val (.int (p0_4 &&& (3 : Int32))), .val (.long (own_j0_16 q0_0 q0_1 q0_2 q0_3 p0_4)), .second, .val (.long (own_j0_17 q0_0 q0_1 q0_2 q0_3 p0_4)), .second, .val (.long (own_v0_18 q0_0 q0_1 q0_2)), .second, .val (.long (own_v0_19 q0_0 q0_1 q0_2 q0_3 p0_4)), .second, .val (.long (own_v0_20 q0_0 q0_1 q0_2 q0_3 p0_4)), .second, .unset, .unset, .unset, .unset] [(.long (own_r2_0 (own_v0_4 q0_2) (own_v0_5 q0_2) (own_v0_0 q0_0) (own_v0_1 q0_0) (own_j0_16 q0_0 q0_1 q0_2 q0_3 p0_4) (own_j0_17 q0_0 q0_1 q0_2 q0_3 p0_4)))])) _
      refine XT.lstore Xk0_18.here hx rfl (hb hby at_235) rfl (l' := #[.val (.long q0_0), .second, .val (.long q0_1), .second, .val (.long q0_2), .second, .val (.long q0_3), .second, .val (.int p0_4), .val (.long (own_v0_0 q0_0)), .second, .val (.long (own_v0_1 q0_0)), .second, .val (.long (own_v0_2 q0_1)), .second, .val (.long (own_v0_3 q0_1)), .second, .val (.long (own_v0_4 q0_2)), .second, .val (.long (own_v0_5 q0_2)), .second, .val (.int (p0_4 &&& (3 : Int32))), .val (.long (own_j0_16 q0_0 q0_1 q0_2 q0_3 p0_4)), .second, .val (.long (own_j0_17 q0_0 q0_1 q0_2 q0_3 p0_4)), .second, .val (.long (own_v0_18 q0_0 q0_1 q0_2)), .second, .val (.long (own_v0_19 q0_0 q0_1 q0_2 q0_3 p0_4)), .second, .val (.long (own_v0_20 q0_0 q0_1 q0_2 q0_3 p0_4)), .second, .val (.long (own_v0_21 q0_0 q0_1 q0_2 q0_3 p0_4)), .second, .unset, .unset]) rfl ?_
      show Steps p.tables e below (Tk0_18.setTop (mkF m 237 #[.val (.long q0_0), .second, .val (.long q0_1), .second, .val (.long q0_2), .second, .val (.long q0_3), .second, .val (.int p0_4), .val (.long (own_v0_0 q0_0)), .second, .val (.long (own_v0_1 q0_0)), .second, .val (.long (own_v0_2 q0_1)), .second, .val (.long (own_v0_3 q0_1)), .second, .val (.long (own_v0_4 q0_2)), .second, .val (.long (own_v0_5 q0_2)), .second, .val (.int (p0_4 &&& (3 : Int32))), .val (.long (own_j0_16 q0_0 q0_1 q0_2 q0_3 p0_4)), .second, .val (.long (own_j0_17 q0_0 q0_1 q0_2 q0_3 p0_4)), .second, .val (.long (own_v0_18 q0_0 q0_1 q0_2)), .second, .val (.long (own_v0_19 q0_0 q0_1 q0_2 q0_3 p0_4)), .second, .val (.long (own_v0_20 q0_0 q0_1 q0_2 q0_3 p0_4)), .second, .val (.long (own_v0_21 q0_0 q0_1 q0_2 q0_3 p0_4)), .second, .unset, .unset] [])) _
      refine XT.lload Xk0_18.here hx rfl (hb hby at_237) rfl ?_
      show Steps p.tables e below (Tk0_18.setTop (mkF m 239 #[.val (.long q0_0), .second, .val (.long q0_1), .second, .val (.long q0_2), .second, .val (.long q0_3), .second, .val (.int p0_4), .val (.long (own_v0_0 q0_0)), .second, .val (.long (own_v0_1 q0_0)), .second, .val (.long (own_v0_2 q0_1)), .second, .val (.long (own_v0_3 q0_1)), .second, .val (.long (own_v0_4 q0_2)), .second, .val (.long (own_v0_5 q0_2)), .second, .val (.int (p0_4 &&& (3 : Int32))), .val (.long (own_j0_16 q0_0 q0_1 q0_2 q0_3 p0_4)), .second, .val (.long (own_j0_17 q0_0 q0_1 q0_2 q0_3 p0_4)), .second, .val (.long (own_v0_18 q0_0 q0_1 q0_2)), .second, .val (.long (own_v0_19 q0_0 q0_1 q0_2 q0_3 p0_4)), .second, .val (.long (own_v0_20 q0_0 q0_1 q0_2 q0_3 p0_4)), .second, .val (.long (own_v0_21 q0_0 q0_1 q0_2 q0_3 p0_4)), .second, .unset, .unset] [(.long (own_v0_18 q0_0 q0_1 q0_2))])) _
      refine stk0_19 _ ?_
      show Steps p.tables e below (Tk0_19.setTop (mkF m 242 #[.val (.long q0_0), .second, .val (.long q0_1), .second, .val (.long q0_2), .second, .val (.long q0_3), .second, .val (.int p0_4), .val (.long (own_v0_0 q0_0)), .second, .val (.long (own_v0_1 q0_0)), .second, .val (.long (own_v0_2 q0_1)), .second, .val (.long (own_v0_3 q0_1)), .second, .val (.long (own_v0_4 q0_2)), .second, .val (.long (own_v0_5 q0_2)), .second, .val (.int (p0_4 &&& (3 : Int32))), .val (.long (own_j0_16 q0_0 q0_1 q0_2 q0_3 p0_4)), .second, .val (.long (own_j0_17 q0_0 q0_1 q0_2 q0_3 p0_4)), .second, .val (.long (own_v0_18 q0_0 q0_1 q0_2)), .second, .val (.long (own_v0_19 q0_0 q0_1 q0_2 q0_3 p0_4)), .second, .val (.long (own_v0_20 q0_0 q0_1 q0_2 q0_3 p0_4)), .second, .val (.long (own_v0_21 q0_0 q0_1 q0_2 q0_3 p0_4)), .second, .unset, .unset] [(.long (own_j3_0 (own_v0_18 q0_0 q0_1 q0_2)))])) _
      refine XT.lload Xk0_19.here hx rfl (hb hby at_242) rfl ?_
      show Steps p.tables e below (Tk0_19.setTop (mkF m 244 #[.val (.long q0_0), .second, .val (.long q0_1), .second, .val (.long q0_2), .second, .val (.long q0_3), .second, .val (.int p0_4), .val (.long (own_v0_0 q0_0)), .second, .val (.long (own_v0_1 q0_0)), .second, .val (.long (own_v0_2 q0_1)), .second, .val (.long (own_v0_3 q0_1)), .second, .val (.long (own_v0_4 q0_2)), .second, .val (.long (own_v0_5 q0_2)), .second, .val (.int (p0_4 &&& (3 : Int32))), .val (.long (own_j0_16 q0_0 q0_1 q0_2 q0_3 p0_4)), .second, .val (.long (own_j0_17 q0_0 q0_1 q0_2 q0_3 p0_4)), .second, .val (.long (own_v0_18 q0_0 q0_1 q0_2)), .second, .val (.long (own_v0_19 q0_0 q0_1 q0_2 q0_3 p0_4)), .second, .val (.long (own_v0_20 q0_0 q0_1 q0_2 q0_3 p0_4)), .second, .val (.long (own_v0_21 q0_0 q0_1 q0_2 q0_3 p0_4)), .second, .unset, .unset] [(.long (own_v0_19 q0_0 q0_1 q0_2 q0_3 p0_4)), (.long (own_j3_0 (own_v0_18 q0_0 q0_1 q0_2)))])) _
      refine stk0_20 _ ?_
      show Steps p.tables e below (Tk0_20.setTop (mkF m 247 #[.val (.long q0_0), .second, .val (.long q0_1), .second, .val (.long q0_2), .second, .val (.long q0_3), .second, .val (.int p0_4), .val (.long (own_v0_0 q0_0)), .second, .val (.long (own_v0_1 q0_0)), .second, .val (.long (own_v0_2 q0_1)), .second, .val (.long (own_v0_3 q0_1)), .second, .val (.long (own_v0_4 q0_2)), .second, .val (.long (own_v0_5 q0_2)), .second, .val (.int (p0_4 &&& (3 : Int32))), .val (.long (own_j0_16 q0_0 q0_1 q0_2 q0_3 p0_4)), .second, .val (.long (own_j0_17 q0_0 q0_1 q0_2 q0_3 p0_4)), .second, .val (.long (own_v0_18 q0_0 q0_1 q0_2)), .second, .val (.long (own_v0_19 q0_0 q0_1 q0_2 q0_3 p0_4)), .second, .val (.long (own_v0_20 q0_0 q0_1 q0_2 q0_3 p0_4)), .second, .val (.long (own_v0_21 q0_0 q0_1 q0_2 q0_3 p0_4)), .second, .unset, .unset] [(.long (own_j3_0 (own_v0_19 q0_0 q0_1 q0_2 q0_3 p0_4))), (.long (own_j3_0 (own_v0_18 q0_0 q0_1 q0_2)))])) _
      refine XT.lload Xk0_20.here hx rfl (hb hby at_247) rfl ?_
      show Steps p.tables e below (Tk0_20.setTop (mkF m 249 #[.val (.long q0_0), .second, .val (.long q0_1), .second, .val (.long q0_2), .second, .val (.long q0_3), .second, .val (.int p0_4), .val (.long (own_v0_0 q0_0)), .second, .val (.long (own_v0_1 q0_0)), .second, .val (.long (own_v0_2 q0_1)), .second, .val (.long (own_v0_3 q0_1)), .second, .val (.long (own_v0_4 q0_2)), .second, .val (.long (own_v0_5 q0_2)), .second, .val (.int (p0_4 &&& (3 : Int32))), .val (.long (own_j0_16 q0_0 q0_1 q0_2 q0_3 p0_4)), .second, .val (.long (own_j0_17 q0_0 q0_1 q0_2 q0_3 p0_4)), .second, .val (.long (own_v0_18 q0_0 q0_1 q0_2)), .second, .val (.long (own_v0_19 q0_0 q0_1 q0_2 q0_3 p0_4)), .second, .val (.long (own_v0_20 q0_0 q0_1 q0_2 q0_3 p0_4)), .second, .val (.long (own_v0_21 q0_0 q0_1 q0_2 q0_3 p0_4)), .second, .unset, .unset] [(.long (own_v0_20 q0_0 q0_1 q0_2 q0_3 p0_4)), (.long (own_j3_0 (own_v0_19 q0_0 q0_1 q0_2 q0_3 p0_4))), (.long (own_j3_0 (own_v0_18 q0_0 q0_1 q0_2)))])) _
      refine stk0_21 _ ?_
      show Steps p.tables e below (Tk0_21.setTop (mkF m 252 #[.val (.long q0_0), .second, .val (.long q0_1), .second, .val (.long q0_2), .second, .val (.long q0_3), .second, .val (.int p0_4), .val (.long (own_v0_0 q0_0)), .second, .val (.long (own_v0_1 q0_0)), .second, .val (.long (own_v0_2 q0_1)), .second, .val (.long (own_v0_3 q0_1)), .second, .val (.long (own_v0_4 q0_2)), .second, .val (.long (own_v0_5 q0_2)), .second, .val (.int (p0_4 &&& (3 : Int32))), .val (.long (own_j0_16 q0_0 q0_1 q0_2 q0_3 p0_4)), .second, .val (.long (own_j0_17 q0_0 q0_1 q0_2 q0_3 p0_4)), .second, .val (.long (own_v0_18 q0_0 q0_1 q0_2)), .second, .val (.long (own_v0_19 q0_0 q0_1 q0_2 q0_3 p0_4)), .second, .val (.long (own_v0_20 q0_0 q0_1 q0_2 q0_3 p0_4)), .second, .val (.long (own_v0_21 q0_0 q0_1 q0_2 q0_3 p0_4)), .second, .unset, .unset] [(.long (own_j3_0 (own_v0_20 q0_0 q0_1 q0_2 q0_3 p0_4))), (.long (own_j3_0 (own_v0_19 q0_0 q0_1 q0_2 q0_3 p0_4))), (.long (own_j3_0 (own_v0_18 q0_0 q0_1 q0_2)))])) _
      refine XT.ladd Xk0_21.here hx rfl (hb hby at_252) rfl ?_
      show Steps p.tables e below (Tk0_21.setTop (mkF m 253 #[.val (.long q0_0), .second, .val (.long q0_1), .second, .val (.long q0_2), .second, .val (.long q0_3), .second, .val (.int p0_4), .val (.long (own_v0_0 q0_0)), .second, .val (.long (own_v0_1 q0_0)), .second, .val (.long (own_v0_2 q0_1)), .second, .val (.long (own_v0_3 q0_1)), .second, .val (.long (own_v0_4 q0_2)), .second, .val (.long (own_v0_5 q0_2)), .second, .val (.int (p0_4 &&& (3 : Int32))), .val (.long (own_j0_16 q0_0 q0_1 q0_2 q0_3 p0_4)), .second, .val (.long (own_j0_17 q0_0 q0_1 q0_2 q0_3 p0_4)), .second, .val (.long (own_v0_18 q0_0 q0_1 q0_2)), .second, .val (.long (own_v0_19 q0_0 q0_1 q0_2 q0_3 p0_4)), .second, .val (.long (own_v0_20 q0_0 q0_1 q0_2 q0_3 p0_4)), .second, .val (.long (own_v0_21 q0_0 q0_1 q0_2 q0_3 p0_4)), .second, .unset, .unset] [(.long ((own_j3_0 (own_v0_19 q0_0 q0_1 q0_2 q0_3 p0_4)) + (own_j3_0 (own_v0_20 q0_0 q0_1 q0_2 q0_3 p0_4)))), (.long (own_j3_0 (own_v0_18 q0_0 q0_1 q0_2)))])) _
      refine XT.lload Xk0_21.here hx rfl (hb hby at_253) rfl ?_
      show Steps p.tables e below (Tk0_21.setTop (mkF m 255 #[.val (.long q0_0), .second, .val (.long q0_1), .second, .val (.long q0_2), .second, .val (.long q0_3), .second, .val (.int p0_4), .val (.long (own_v0_0 q0_0)), .second, .val (.long (own_v0_1 q0_0)), .second, .val (.long (own_v0_2 q0_1)), .second, .val (.long (own_v0_3 q0_1)), .second, .val (.long (own_v0_4 q0_2)), .second, .val (.long (own_v0_5 q0_2)), .second, .val (.int (p0_4 &&& (3 : Int32))), .val (.long (own_j0_16 q0_0 q0_1 q0_2 q0_3 p0_4)), .second, .val (.long (own_j0_17 q0_0 q0_1 q0_2 q0_3 p0_4)), .second, .val (.long (own_v0_18 q0_0 q0_1 q0_2)), .second, .val (.long (own_v0_19 q0_0 q0_1 q0_2 q0_3 p0_4)), .second, .val (.long (own_v0_20 q0_0 q0_1 q0_2 q0_3 p0_4)), .second, .val (.long (own_v0_21 q0_0 q0_1 q0_2 q0_3 p0_4)), .second, .unset, .unset] [(.long (own_v0_21 q0_0 q0_1 q0_2 q0_3 p0_4)), (.long ((own_j3_0 (own_v0_19 q0_0 q0_1 q0_2 q0_3 p0_4)) + (own_j3_0 (own_v0_20 q0_0 q0_1 q0_2 q0_3 p0_4)))), (.long (own_j3_0 (own_v0_18 q0_0 q0_1 q0_2)))])) _
      refine stk0_22 _ ?_
      show Steps p.tables e below (Tk0_22.setTop (mkF m 258 #[.val (.long q0_0), .second, .val (.long q0_1), .second, .val (.long q0_2), .second, .val (.long q0_3), .second, .val (.int p0_4), .val (.long (own_v0_0 q0_0)), .second, .val (.long (own_v0_1 q0_0)), .second, .val (.long (own_v0_2 q0_1)), .second, .val (.long (own_v0_3 q0_1)), .second, .val (.long (own_v0_4 q0_2)), .second, .val (.long (own_v0_5 q0_2)), .second, .val (.int (p0_4 &&& (3 : Int32))), .val (.long (own_j0_16 q0_0 q0_1 q0_2 q0_3 p0_4)), .second, .val (.long (own_j0_17 q0_0 q0_1 q0_2 q0_3 p0_4)), .second, .val (.long (own_v0_18 q0_0 q0_1 q0_2)), .second, .val (.long (own_v0_19 q0_0 q0_1 q0_2 q0_3 p0_4)), .second, .val (.long (own_v0_20 q0_0 q0_1 q0_2 q0_3 p0_4)), .second, .val (.long (own_v0_21 q0_0 q0_1 q0_2 q0_3 p0_4)), .second, .unset, .unset] [(.long (own_j3_0 (own_v0_21 q0_0 q0_1 q0_2 q0_3 p0_4))), (.long ((own_j3_0 (own_v0_19 q0_0 q0_1 q0_2 q0_3 p0_4)) + (own_j3_0 (own_v0_20 q0_0 q0_1 q0_2 q0_3 p0_4)))), (.long (own_j3_0 (own_v0_18 q0_0 q0_1 q0_2)))])) _
      refine XT.ladd Xk0_22.here hx rfl (hb hby at_258) rfl ?_
      show Steps p.tables e below (Tk0_22.setTop (mkF m 259 #[.val (.long q0_0), .second, .val (.long q0_1), .second, .val (.long q0_2), .second, .val (.long q0_3), .second, .val (.int p0_4), .val (.long (own_v0_0 q0_0)), .second, .val (.long (own_v0_1 q0_0)), .second, .val (.long (own_v0_2 q0_1)), .second, .val (.long (own_v0_3 q0_1)), .second, .val (.long (own_v0_4 q0_2)), .second, .val (.long (own_v0_5 q0_2)), .second, .val (.int (p0_4 &&& (3 : Int32))), .val (.long (own_j0_16 q0_0 q0_1 q0_2 q0_3 p0_4)), .second, .val (.long (own_j0_17 q0_0 q0_1 q0_2 q0_3 p0_4)), .second, .val (.long (own_v0_18 q0_0 q0_1 q0_2)), .second, .val (.long (own_v0_19 q0_0 q0_1 q0_2 q0_3 p0_4)), .second, .val (.long (own_v0_20 q0_0 q0_1 q0_2 q0_3 p0_4)), .second, .val (.long (own_v0_21 q0_0 q0_1 q0_2 q0_3 p0_4)), .second, .unset, .unset] [(.long (((own_j3_0 (own_v0_19 q0_0 q0_1 q0_2 q0_3 p0_4)) + (own_j3_0 (own_v0_20 q0_0 q0_1 q0_2 q0_3 p0_4))) + (own_j3_0 (own_v0_21 q0_0 q0_1 q0_2 q0_3 p0_4)))), (.long (own_j3_0 (own_v0_18 q0_0 q0_1 q0_2)))])) _
      refine XT.lcmp Xk0_22.here hx rfl (hb hby at_259) rfl ?_
      show Steps p.tables e below (Tk0_22.setTop (mkF m 260 #[.val (.long q0_0), .second, .val (.long q0_1), .second, .val (.long q0_2), .second, .val (.long q0_3), .second, .val (.int p0_4), .val (.long (own_v0_0 q0_0)), .second, .val (.long (own_v0_1 q0_0)), .second, .val (.long (own_v0_2 q0_1)), .second, .val (.long (own_v0_3 q0_1)), .second, .val (.long (own_v0_4 q0_2)), .second, .val (.long (own_v0_5 q0_2)), .second, .val (.int (p0_4 &&& (3 : Int32))), .val (.long (own_j0_16 q0_0 q0_1 q0_2 q0_3 p0_4)), .second, .val (.long (own_j0_17 q0_0 q0_1 q0_2 q0_3 p0_4)), .second, .val (.long (own_v0_18 q0_0 q0_1 q0_2)), .second, .val (.long (own_v0_19 q0_0 q0_1 q0_2 q0_3 p0_4)), .second, .val (.long (own_v0_20 q0_0 q0_1 q0_2 q0_3 p0_4)), .second, .val (.long (own_v0_21 q0_0 q0_1 q0_2 q0_3 p0_4)), .second, .unset, .unset] [(.int (XT.cmpL (own_j3_0 (own_v0_18 q0_0 q0_1 q0_2)) (((own_j3_0 (own_v0_19 q0_0 q0_1 q0_2 q0_3 p0_4)) + (own_j3_0 (own_v0_20 q0_0 q0_1 q0_2 q0_3 p0_4))) + (own_j3_0 (own_v0_21 q0_0 q0_1 q0_2 q0_3 p0_4)))))])) _
      refine stj0_23 _ ?_
      show Steps p.tables e below (Tj0_23.setTop (mkF m 268 #[.val (.long q0_0), .second, .val (.long q0_1), .second, .val (.long q0_2), .second, .val (.long q0_3), .second, .val (.int p0_4), .val (.long (own_v0_0 q0_0)), .second, .val (.long (own_v0_1 q0_0)), .second, .val (.long (own_v0_2 q0_1)), .second, .val (.long (own_v0_3 q0_1)), .second, .val (.long (own_v0_4 q0_2)), .second, .val (.long (own_v0_5 q0_2)), .second, .val (.int (p0_4 &&& (3 : Int32))), .val (.long (own_j0_16 q0_0 q0_1 q0_2 q0_3 p0_4)), .second, .val (.long (own_j0_17 q0_0 q0_1 q0_2 q0_3 p0_4)), .second, .val (.long (own_v0_18 q0_0 q0_1 q0_2)), .second, .val (.long (own_v0_19 q0_0 q0_1 q0_2 q0_3 p0_4)), .second, .val (.long (own_v0_20 q0_0 q0_1 q0_2 q0_3 p0_4)), .second, .val (.long (own_v0_21 q0_0 q0_1 q0_2 q0_3 p0_4)), .second, .unset, .unset] [(.int (own_j0_22 q0_0 q0_1 q0_2 q0_3 p0_4))])) _
      refine XS.istore Xj0_23.here hx rfl (hb hby at_268) rfl (l' := #[.val (.long q0_0), .second, .val (.long q0_1), .second, .val (.long q0_2), .second, .val (.long q0_3), .second, .val (.int p0_4), .val (.long (own_v0_0 q0_0)), .second, .val (.long (own_v0_1 q0_0)), .second, .val (.long (own_v0_2 q0_1)), .second, .val (.long (own_v0_3 q0_1)), .second, .val (.long (own_v0_4 q0_2)), .second, .val (.long (own_v0_5 q0_2)), .second, .val (.int (p0_4 &&& (3 : Int32))), .val (.long (own_j0_16 q0_0 q0_1 q0_2 q0_3 p0_4)), .second, .val (.long (own_j0_17 q0_0 q0_1 q0_2 q0_3 p0_4)), .second, .val (.long (own_v0_18 q0_0 q0_1 q0_2)), .second, .val (.long (own_v0_19 q0_0 q0_1 q0_2 q0_3 p0_4)), .second, .val (.long (own_v0_20 q0_0 q0_1 q0_2 q0_3 p0_4)), .second, .val (.long (own_v0_21 q0_0 q0_1 q0_2 q0_3 p0_4)), .second, .val (.int (own_j0_22 q0_0 q0_1 q0_2 q0_3 p0_4)), .unset]) rfl ?_
      show Steps p.tables e below (Tj0_23.setTop (mkF m 270 #[.val (.long q0_0), .second, .val (.long q0_1), .second, .val (.long q0_2), .second, .val (.long q0_3), .second, .val (.int p0_4), .val (.long (own_v0_0 q0_0)), .second, .val (.long (own_v0_1 q0_0)), .second, .val (.long (own_v0_2 q0_1)), .second, .val (.long (own_v0_3 q0_1)), .second, .val (.long (own_v0_4 q0_2)), .second, .val (.long (own_v0_5 q0_2)), .second, .val (.int (p0_4 &&& (3 : Int32))), .val (.long (own_j0_16 q0_0 q0_1 q0_2 q0_3 p0_4)), .second, .val (.long (own_j0_17 q0_0 q0_1 q0_2 q0_3 p0_4)), .second, .val (.long (own_v0_18 q0_0 q0_1 q0_2)), .second, .val (.long (own_v0_19 q0_0 q0_1 q0_2 q0_3 p0_4)), .second, .val (.long (own_v0_20 q0_0 q0_1 q0_2 q0_3 p0_4)), .second, .val (.long (own_v0_21 q0_0 q0_1 q0_2 q0_3 p0_4)), .second, .val (.int (own_j0_22 q0_0 q0_1 q0_2 q0_3 p0_4)), .unset] [])) _
      refine stn0_24 _ ?_
      show Steps p.tables e below (Tn0_24.setTop (mkF m 273 #[.val (.long q0_0), .second, .val (.long q0_1), .second, .val (.long q0_2), .second, .val (.long q0_3), .second, .val (.int p0_4), .val (.long (own_v0_0 q0_0)), .second, .val (.long (own_v0_1 q0_0)), .second, .val (.long (own_v0_2 q0_1)), .second, .val (.long (own_v0_3 q0_1)), .second, .val (.long (own_v0_4 q0_2)), .second, .val (.long (own_v0_5 q0_2)), .second, .val (.int (p0_4 &&& (3 : Int32))), .val (.long (own_j0_16 q0_0 q0_1 q0_2 q0_3 p0_4)), .second, .val (.long (own_j0_17 q0_0 q0_1 q0_2 q0_3 p0_4)), .second, .val (.long (own_v0_18 q0_0 q0_1 q0_2)), .second, .val (.long (own_v0_19 q0_0 q0_1 q0_2 q0_3 p0_4)), .second, .val (.long (own_v0_20 q0_0 q0_1 q0_2 q0_3 p0_4)), .second, .val (.long (own_v0_21 q0_0 q0_1 q0_2 q0_3 p0_4)), .second, .val (.int (own_j0_22 q0_0 q0_1 q0_2 q0_3 p0_4)), .unset] [(.ref bn0_24)])) _
      refine XS.dup Xn0_24.here hx rfl (hb hby at_273) rfl rfl ?_
      show Steps p.tables e below (Tn0_24.setTop (mkF m 274 #[.val (.long q0_0), .second, .val (.long q0_1), .second, .val (.long q0_2), .second, .val (.long q0_3), .second, .val (.int p0_4), .val (.long (own_v0_0 q0_0)), .second, .val (.long (own_v0_1 q0_0)), .second, .val (.long (own_v0_2 q0_1)), .second, .val (.long (own_v0_3 q0_1)), .second, .val (.long (own_v0_4 q0_2)), .second, .val (.long (own_v0_5 q0_2)), .second, .val (.int (p0_4 &&& (3 : Int32))), .val (.long (own_j0_16 q0_0 q0_1 q0_2 q0_3 p0_4)), .second, .val (.long (own_j0_17 q0_0 q0_1 q0_2 q0_3 p0_4)), .second, .val (.long (own_v0_18 q0_0 q0_1 q0_2)), .second, .val (.long (own_v0_19 q0_0 q0_1 q0_2 q0_3 p0_4)), .second, .val (.long (own_v0_20 q0_0 q0_1 q0_2 q0_3 p0_4)), .second, .val (.long (own_v0_21 q0_0 q0_1 q0_2 q0_3 p0_4)), .second, .val (.int (own_j0_22 q0_0 q0_1 q0_2 q0_3 p0_4)), .unset] [(.ref bn0_24), (.ref bn0_24)])) _
      refine XT.lload Xn0_24.here hx rfl (hb hby at_274) rfl ?_
      show Steps p.tables e below (Tn0_24.setTop (mkF m 276 #[.val (.long q0_0), .second, .val (.long q0_1), .second, .val (.long q0_2), .second, .val (.long q0_3), .second, .val (.int p0_4), .val (.long (own_v0_0 q0_0)), .second, .val (.long (own_v0_1 q0_0)), .second, .val (.long (own_v0_2 q0_1)), .second, .val (.long (own_v0_3 q0_1)), .second, .val (.long (own_v0_4 q0_2)), .second, .val (.long (own_v0_5 q0_2)), .second, .val (.int (p0_4 &&& (3 : Int32))), .val (.long (own_j0_16 q0_0 q0_1 q0_2 q0_3 p0_4)), .second, .val (.long (own_j0_17 q0_0 q0_1 q0_2 q0_3 p0_4)), .second, .val (.long (own_v0_18 q0_0 q0_1 q0_2)), .second, .val (.long (own_v0_19 q0_0 q0_1 q0_2 q0_3 p0_4)), .second, .val (.long (own_v0_20 q0_0 q0_1 q0_2 q0_3 p0_4)), .second, .val (.long (own_v0_21 q0_0 q0_1 q0_2 q0_3 p0_4)), .second, .val (.int (own_j0_22 q0_0 q0_1 q0_2 q0_3 p0_4)), .unset] [(.long (own_v0_0 q0_0)), (.ref bn0_24), (.ref bn0_24)])) _
      refine XS.l2dS Xn0_24.here hx rfl (hb hby at_276) rfl rfl ?_
      show Steps p.tables e below (Tn0_24.setTop (mkF m 277 #[.val (.long q0_0), .second, .val (.long q0_1), .second, .val (.long q0_2), .second, .val (.long q0_3), .second, .val (.int p0_4), .val (.long (own_v0_0 q0_0)), .second, .val (.long (own_v0_1 q0_0)), .second, .val (.long (own_v0_2 q0_1)), .second, .val (.long (own_v0_3 q0_1)), .second, .val (.long (own_v0_4 q0_2)), .second, .val (.long (own_v0_5 q0_2)), .second, .val (.int (p0_4 &&& (3 : Int32))), .val (.long (own_j0_16 q0_0 q0_1 q0_2 q0_3 p0_4)), .second, .val (.long (own_j0_17 q0_0 q0_1 q0_2 q0_3 p0_4)), .second, .val (.long (own_v0_18 q0_0 q0_1 q0_2)), .second, .val (.long (own_v0_19 q0_0 q0_1 q0_2 q0_3 p0_4)), .second, .val (.long (own_v0_20 q0_0 q0_1 q0_2 q0_3 p0_4)), .second, .val (.long (own_v0_21 q0_0 q0_1 q0_2 q0_3 p0_4)), .second, .val (.int (own_j0_22 q0_0 q0_1 q0_2 q0_3 p0_4)), .unset] [(.double (FP.l2d (own_v0_0 q0_0))), (.ref bn0_24), (.ref bn0_24)])) _
      refine XT.lload Xn0_24.here hx rfl (hb hby at_277) rfl ?_
      show Steps p.tables e below (Tn0_24.setTop (mkF m 279 #[.val (.long q0_0), .second, .val (.long q0_1), .second, .val (.long q0_2), .second, .val (.long q0_3), .second, .val (.int p0_4), .val (.long (own_v0_0 q0_0)), .second, .val (.long (own_v0_1 q0_0)), .second, .val (.long (own_v0_2 q0_1)), .second, .val (.long (own_v0_3 q0_1)), .second, .val (.long (own_v0_4 q0_2)), .second, .val (.long (own_v0_5 q0_2)), .second, .val (.int (p0_4 &&& (3 : Int32))), .val (.long (own_j0_16 q0_0 q0_1 q0_2 q0_3 p0_4)), .second, .val (.long (own_j0_17 q0_0 q0_1 q0_2 q0_3 p0_4)), .second, .val (.long (own_v0_18 q0_0 q0_1 q0_2)), .second, .val (.long (own_v0_19 q0_0 q0_1 q0_2 q0_3 p0_4)), .second, .val (.long (own_v0_20 q0_0 q0_1 q0_2 q0_3 p0_4)), .second, .val (.long (own_v0_21 q0_0 q0_1 q0_2 q0_3 p0_4)), .second, .val (.int (own_j0_22 q0_0 q0_1 q0_2 q0_3 p0_4)), .unset] [(.long (own_v0_1 q0_0)), (.double (FP.l2d (own_v0_0 q0_0))), (.ref bn0_24), (.ref bn0_24)])) _
      refine XS.l2dS Xn0_24.here hx rfl (hb hby at_279) rfl rfl ?_
      show Steps p.tables e below (Tn0_24.setTop (mkF m 280 #[.val (.long q0_0), .second, .val (.long q0_1), .second, .val (.long q0_2), .second, .val (.long q0_3), .second, .val (.int p0_4), .val (.long (own_v0_0 q0_0)), .second, .val (.long (own_v0_1 q0_0)), .second, .val (.long (own_v0_2 q0_1)), .second, .val (.long (own_v0_3 q0_1)), .second, .val (.long (own_v0_4 q0_2)), .second, .val (.long (own_v0_5 q0_2)), .second, .val (.int (p0_4 &&& (3 : Int32))), .val (.long (own_j0_16 q0_0 q0_1 q0_2 q0_3 p0_4)), .second, .val (.long (own_j0_17 q0_0 q0_1 q0_2 q0_3 p0_4)), .second, .val (.long (own_v0_18 q0_0 q0_1 q0_2)), .second, .val (.long (own_v0_19 q0_0 q0_1 q0_2 q0_3 p0_4)), .second, .val (.long (own_v0_20 q0_0 q0_1 q0_2 q0_3 p0_4)), .second, .val (.long (own_v0_21 q0_0 q0_1 q0_2 q0_3 p0_4)), .second, .val (.int (own_j0_22 q0_0 q0_1 q0_2 q0_3 p0_4)), .unset] [(.double (FP.l2d (own_v0_1 q0_0))), (.double (FP.l2d (own_v0_0 q0_0))), (.ref bn0_24), (.ref bn0_24)])) _
      refine XT.lload Xn0_24.here hx rfl (hb hby at_280) rfl ?_
      show Steps p.tables e below (Tn0_24.setTop (mkF m 282 #[.val (.long q0_0), .second, .val (.long q0_1), .second, .val (.long q0_2), .second, .val (.long q0_3), .second, .val (.int p0_4), .val (.long (own_v0_0 q0_0)), .second, .val (.long (own_v0_1 q0_0)), .second, .val (.long (own_v0_2 q0_1)), .second, .val (.long (own_v0_3 q0_1)), .second, .val (.long (own_v0_4 q0_2)), .second, .val (.long (own_v0_5 q0_2)), .second, .val (.int (p0_4 &&& (3 : Int32))), .val (.long (own_j0_16 q0_0 q0_1 q0_2 q0_3 p0_4)), .second, .val (.long (own_j0_17 q0_0 q0_1 q0_2 q0_3 p0_4)), .second, .val (.long (own_v0_18 q0_0 q0_1 q0_2)), .second, .val (.long (own_v0_19 q0_0 q0_1 q0_2 q0_3 p0_4)), .second, .val (.long (own_v0_20 q0_0 q0_1 q0_2 q0_3 p0_4)), .second, .val (.long (own_v0_21 q0_0 q0_1 q0_2 q0_3 p0_4)), .second, .val (.int (own_j0_22 q0_0 q0_1 q0_2 q0_3 p0_4)), .unset] [(.long (own_v0_2 q0_1)), (.double (FP.l2d (own_v0_1 q0_0))), (.double (FP.l2d (own_v0_0 q0_0))), (.ref bn0_24), (.ref bn0_24)])) _
      refine XS.l2dS Xn0_24.here hx rfl (hb hby at_282) rfl rfl ?_
      show Steps p.tables e below (Tn0_24.setTop (mkF m 283 #[.val (.long q0_0), .second, .val (.long q0_1), .second, .val (.long q0_2), .second, .val (.long q0_3), .second, .val (.int p0_4), .val (.long (own_v0_0 q0_0)), .second, .val (.long (own_v0_1 q0_0)), .second, .val (.long (own_v0_2 q0_1)), .second, .val (.long (own_v0_3 q0_1)), .second, .val (.long (own_v0_4 q0_2)), .second, .val (.long (own_v0_5 q0_2)), .second, .val (.int (p0_4 &&& (3 : Int32))), .val (.long (own_j0_16 q0_0 q0_1 q0_2 q0_3 p0_4)), .second, .val (.long (own_j0_17 q0_0 q0_1 q0_2 q0_3 p0_4)), .second, .val (.long (own_v0_18 q0_0 q0_1 q0_2)), .second, .val (.long (own_v0_19 q0_0 q0_1 q0_2 q0_3 p0_4)), .second, .val (.long (own_v0_20 q0_0 q0_1 q0_2 q0_3 p0_4)), .second, .val (.long (own_v0_21 q0_0 q0_1 q0_2 q0_3 p0_4)), .second, .val (.int (own_j0_22 q0_0 q0_1 q0_2 q0_3 p0_4)), .unset] [(.double (FP.l2d (own_v0_2 q0_1))), (.double (FP.l2d (own_v0_1 q0_0))), (.double (FP.l2d (own_v0_0 q0_0))), (.ref bn0_24), (.ref bn0_24)])) _
      refine XT.lload Xn0_24.here hx rfl (hb hby at_283) rfl ?_
      show Steps p.tables e below (Tn0_24.setTop (mkF m 285 #[.val (.long q0_0), .second, .val (.long q0_1), .second, .val (.long q0_2), .second, .val (.long q0_3), .second, .val (.int p0_4), .val (.long (own_v0_0 q0_0)), .second, .val (.long (own_v0_1 q0_0)), .second, .val (.long (own_v0_2 q0_1)), .second, .val (.long (own_v0_3 q0_1)), .second, .val (.long (own_v0_4 q0_2)), .second, .val (.long (own_v0_5 q0_2)), .second, .val (.int (p0_4 &&& (3 : Int32))), .val (.long (own_j0_16 q0_0 q0_1 q0_2 q0_3 p0_4)), .second, .val (.long (own_j0_17 q0_0 q0_1 q0_2 q0_3 p0_4)), .second, .val (.long (own_v0_18 q0_0 q0_1 q0_2)), .second, .val (.long (own_v0_19 q0_0 q0_1 q0_2 q0_3 p0_4)), .second, .val (.long (own_v0_20 q0_0 q0_1 q0_2 q0_3 p0_4)), .second, .val (.long (own_v0_21 q0_0 q0_1 q0_2 q0_3 p0_4)), .second, .val (.int (own_j0_22 q0_0 q0_1 q0_2 q0_3 p0_4)), .unset] [(.long (own_v0_3 q0_1)), (.double (FP.l2d (own_v0_2 q0_1))), (.double (FP.l2d (own_v0_1 q0_0))), (.double (FP.l2d (own_v0_0 q0_0))), (.ref bn0_24), (.ref bn0_24)])) _
      refine XS.l2dS Xn0_24.here hx rfl (hb hby at_285) rfl rfl ?_
      show Steps p.tables e below (Tn0_24.setTop (mkF m 286 #[.val (.long q0_0), .second, .val (.long q0_1), .second, .val (.long q0_2), .second, .val (.long q0_3), .second, .val (.int p0_4), .val (.long (own_v0_0 q0_0)), .second, .val (.long (own_v0_1 q0_0)), .second, .val (.long (own_v0_2 q0_1)), .second, .val (.long (own_v0_3 q0_1)), .second, .val (.long (own_v0_4 q0_2)), .second, .val (.long (own_v0_5 q0_2)), .second, .val (.int (p0_4 &&& (3 : Int32))), .val (.long (own_j0_16 q0_0 q0_1 q0_2 q0_3 p0_4)), .second, .val (.long (own_j0_17 q0_0 q0_1 q0_2 q0_3 p0_4)), .second, .val (.long (own_v0_18 q0_0 q0_1 q0_2)), .second, .val (.long (own_v0_19 q0_0 q0_1 q0_2 q0_3 p0_4)), .second, .val (.long (own_v0_20 q0_0 q0_1 q0_2 q0_3 p0_4)), .second, .val (.long (own_v0_21 q0_0 q0_1 q0_2 q0_3 p0_4)), .second, .val (.int (own_j0_22 q0_0 q0_1 q0_2 q0_3 p0_4)), .unset] [(.double (FP.l2d (own_v0_3 q0_1))), (.double (FP.l2d (own_v0_2 q0_1))), (.double (FP.l2d (own_v0_1 q0_0))), (.double (FP.l2d (own_v0_0 q0_0))), (.ref bn0_24), (.ref bn0_24)])) _
      refine XT.lload Xn0_24.here hx rfl (hb hby at_286) rfl ?_
      show Steps p.tables e below (Tn0_24.setTop (mkF m 288 #[.val (.long q0_0), .second, .val (.long q0_1), .second, .val (.long q0_2), .second, .val (.long q0_3), .second, .val (.int p0_4), .val (.long (own_v0_0 q0_0)), .second, .val (.long (own_v0_1 q0_0)), .second, .val (.long (own_v0_2 q0_1)), .second, .val (.long (own_v0_3 q0_1)), .second, .val (.long (own_v0_4 q0_2)), .second, .val (.long (own_v0_5 q0_2)), .second, .val (.int (p0_4 &&& (3 : Int32))), .val (.long (own_j0_16 q0_0 q0_1 q0_2 q0_3 p0_4)), .second, .val (.long (own_j0_17 q0_0 q0_1 q0_2 q0_3 p0_4)), .second, .val (.long (own_v0_18 q0_0 q0_1 q0_2)), .second, .val (.long (own_v0_19 q0_0 q0_1 q0_2 q0_3 p0_4)), .second, .val (.long (own_v0_20 q0_0 q0_1 q0_2 q0_3 p0_4)), .second, .val (.long (own_v0_21 q0_0 q0_1 q0_2 q0_3 p0_4)), .second, .val (.int (own_j0_22 q0_0 q0_1 q0_2 q0_3 p0_4)), .unset] [(.long (own_v0_4 q0_2)), (.double (FP.l2d (own_v0_3 q0_1))), (.double (FP.l2d (own_v0_2 q0_1))), (.double (FP.l2d (own_v0_1 q0_0))), (.double (FP.l2d (own_v0_0 q0_0))), (.ref bn0_24), (.ref bn0_24)])) _
      refine XS.l2dS Xn0_24.here hx rfl (hb hby at_288) rfl rfl ?_
      show Steps p.tables e below (Tn0_24.setTop (mkF m 289 #[.val (.long q0_0), .second, .val (.long q0_1), .second, .val (.long q0_2), .second, .val (.long q0_3), .second, .val (.int p0_4), .val (.long (own_v0_0 q0_0)), .second, .val (.long (own_v0_1 q0_0)), .second, .val (.long (own_v0_2 q0_1)), .second, .val (.long (own_v0_3 q0_1)), .second, .val (.long (own_v0_4 q0_2)), .second, .val (.long (own_v0_5 q0_2)), .second, .val (.int (p0_4 &&& (3 : Int32))), .val (.long (own_j0_16 q0_0 q0_1 q0_2 q0_3 p0_4)), .second, .val (.long (own_j0_17 q0_0 q0_1 q0_2 q0_3 p0_4)), .second, .val (.long (own_v0_18 q0_0 q0_1 q0_2)), .second, .val (.long (own_v0_19 q0_0 q0_1 q0_2 q0_3 p0_4)), .second, .val (.long (own_v0_20 q0_0 q0_1 q0_2 q0_3 p0_4)), .second, .val (.long (own_v0_21 q0_0 q0_1 q0_2 q0_3 p0_4)), .second, .val (.int (own_j0_22 q0_0 q0_1 q0_2 q0_3 p0_4)), .unset] [(.double (FP.l2d (own_v0_4 q0_2))), (.double (FP.l2d (own_v0_3 q0_1))), (.double (FP.l2d (own_v0_2 q0_1))), (.double (FP.l2d (own_v0_1 q0_0))), (.double (FP.l2d (own_v0_0 q0_0))), (.ref bn0_24), (.ref bn0_24)])) _
      refine XT.lload Xn0_24.here hx rfl (hb hby at_289) rfl ?_
      show Steps p.tables e below (Tn0_24.setTop (mkF m 291 #[.val (.long q0_0), .second, .val (.long q0_1), .second, .val (.long q0_2), .second, .val (.long q0_3), .second, .val (.int p0_4), .val (.long (own_v0_0 q0_0)), .second, .val (.long (own_v0_1 q0_0)), .second, .val (.long (own_v0_2 q0_1)), .second, .val (.long (own_v0_3 q0_1)), .second, .val (.long (own_v0_4 q0_2)), .second, .val (.long (own_v0_5 q0_2)), .second, .val (.int (p0_4 &&& (3 : Int32))), .val (.long (own_j0_16 q0_0 q0_1 q0_2 q0_3 p0_4)), .second, .val (.long (own_j0_17 q0_0 q0_1 q0_2 q0_3 p0_4)), .second, .val (.long (own_v0_18 q0_0 q0_1 q0_2)), .second, .val (.long (own_v0_19 q0_0 q0_1 q0_2 q0_3 p0_4)), .second, .val (.long (own_v0_20 q0_0 q0_1 q0_2 q0_3 p0_4)), .second, .val (.long (own_v0_21 q0_0 q0_1 q0_2 q0_3 p0_4)), .second, .val (.int (own_j0_22 q0_0 q0_1 q0_2 q0_3 p0_4)), .unset] [(.long (own_v0_5 q0_2)), (.double (FP.l2d (own_v0_4 q0_2))), (.double (FP.l2d (own_v0_3 q0_1))), (.double (FP.l2d (own_v0_2 q0_1))), (.double (FP.l2d (own_v0_1 q0_0))), (.double (FP.l2d (own_v0_0 q0_0))), (.ref bn0_24), (.ref bn0_24)])) _
      refine XS.l2dS Xn0_24.here hx rfl (hb hby at_291) rfl rfl ?_
      show Steps p.tables e below (Tn0_24.setTop (mkF m 292 #[.val (.long q0_0), .second, .val (.long q0_1), .second, .val (.long q0_2), .second, .val (.long q0_3), .second, .val (.int p0_4), .val (.long (own_v0_0 q0_0)), .second, .val (.long (own_v0_1 q0_0)), .second, .val (.long (own_v0_2 q0_1)), .second, .val (.long (own_v0_3 q0_1)), .second, .val (.long (own_v0_4 q0_2)), .second, .val (.long (own_v0_5 q0_2)), .second, .val (.int (p0_4 &&& (3 : Int32))), .val (.long (own_j0_16 q0_0 q0_1 q0_2 q0_3 p0_4)), .second, .val (.long (own_j0_17 q0_0 q0_1 q0_2 q0_3 p0_4)), .second, .val (.long (own_v0_18 q0_0 q0_1 q0_2)), .second, .val (.long (own_v0_19 q0_0 q0_1 q0_2 q0_3 p0_4)), .second, .val (.long (own_v0_20 q0_0 q0_1 q0_2 q0_3 p0_4)), .second, .val (.long (own_v0_21 q0_0 q0_1 q0_2 q0_3 p0_4)), .second, .val (.int (own_j0_22 q0_0 q0_1 q0_2 q0_3 p0_4)), .unset] [(.double (FP.l2d (own_v0_5 q0_2))), (.double (FP.l2d (own_v0_4 q0_2))), (.double (FP.l2d (own_v0_3 q0_1))), (.double (FP.l2d (own_v0_2 q0_1))), (.double (FP.l2d (own_v0_1 q0_0))), (.double (FP.l2d (own_v0_0 q0_0))), (.ref bn0_24), (.ref bn0_24)])) _
      refine stk0_26.trans ?_
      show Steps p.tables e below (Tk0_26.setTop (mkF m 295 #[.val (.long q0_0), .second, .val (.long q0_1), .second, .val (.long q0_2), .second, .val (.long q0_3), .second, .val (.int p0_4), .val (.long (own_v0_0 q0_0)), .second, .val (.long (own_v0_1 q0_0)), .second, .val (.long (own_v0_2 q0_1)), .second, .val (.long (own_v0_3 q0_1)), .second, .val (.long (own_v0_4 q0_2)), .second, .val (.long (own_v0_5 q0_2)), .second, .val (.int (p0_4 &&& (3 : Int32))), .val (.long (own_j0_16 q0_0 q0_1 q0_2 q0_3 p0_4)), .second, .val (.long (own_j0_17 q0_0 q0_1 q0_2 q0_3 p0_4)), .second, .val (.long (own_v0_18 q0_0 q0_1 q0_2)), .second, .val (.long (own_v0_19 q0_0 q0_1 q0_2 q0_3 p0_4)), .second, .val (.long (own_v0_20 q0_0 q0_1 q0_2 q0_3 p0_4)), .second, .val (.long (own_v0_21 q0_0 q0_1 q0_2 q0_3 p0_4)), .second, .val (.int (own_j0_22 q0_0 q0_1 q0_2 q0_3 p0_4)), .unset] [(.ref bn0_24)])) _
      refine XS.astore Xk0_26.here hx rfl (hb hby at_295) rfl rfl (l' := #[.val (.long q0_0), .second, .val (.long q0_1), .second, .val (.long q0_2), .second, .val (.long q0_3), .second, .val (.int p0_4), .val (.long (own_v0_0 q0_0)), .second, .val (.long (own_v0_1 q0_0)), .second, .val (.long (own_v0_2 q0_1)), .second, .val (.long (own_v0_3 q0_1)), .second, .val (.long (own_v0_4 q0_2)), .second, .val (.long (own_v0_5 q0_2)), .second, .val (.int (p0_4 &&& (3 : Int32))), .val (.long (own_j0_16 q0_0 q0_1 q0_2 q0_3 p0_4)), .second, .val (.long (own_j0_17 q0_0 q0_1 q0_2 q0_3 p0_4)), .second, .val (.long (own_v0_18 q0_0 q0_1 q0_2)), .second, .val (.long (own_v0_19 q0_0 q0_1 q0_2 q0_3 p0_4)), .second, .val (.long (own_v0_20 q0_0 q0_1 q0_2 q0_3 p0_4)), .second, .val (.long (own_v0_21 q0_0 q0_1 q0_2 q0_3 p0_4)), .second, .val (.int (own_j0_22 q0_0 q0_1 q0_2 q0_3 p0_4)), .val (.ref bn0_24)]) rfl ?_
      show Steps p.tables e below (Tk0_26.setTop (mkF m 297 #[.val (.long q0_0), .second, .val (.long q0_1), .second, .val (.long q0_2), .second, .val (.long q0_3), .second, .val (.int p0_4), .val (.long (own_v0_0 q0_0)), .second, .val (.long (own_v0_1 q0_0)), .second, .val (.long (own_v0_2 q0_1)), .second, .val (.long (own_v0_3 q0_1)), .second, .val (.long (own_v0_4 q0_2)), .second, .val (.long (own_v0_5 q0_2)), .second, .val (.int (p0_4 &&& (3 : Int32))), .val (.long (own_j0_16 q0_0 q0_1 q0_2 q0_3 p0_4)), .second, .val (.long (own_j0_17 q0_0 q0_1 q0_2 q0_3 p0_4)), .second, .val (.long (own_v0_18 q0_0 q0_1 q0_2)), .second, .val (.long (own_v0_19 q0_0 q0_1 q0_2 q0_3 p0_4)), .second, .val (.long (own_v0_20 q0_0 q0_1 q0_2 q0_3 p0_4)), .second, .val (.long (own_v0_21 q0_0 q0_1 q0_2 q0_3 p0_4)), .second, .val (.int (own_j0_22 q0_0 q0_1 q0_2 q0_3 p0_4)), .val (.ref bn0_24)] [])) _
      refine XS.aload Xk0_26.here hx rfl (hb hby at_297) rfl rfl ?_
      show Steps p.tables e below (Tk0_26.setTop (mkF m 299 #[.val (.long q0_0), .second, .val (.long q0_1), .second, .val (.long q0_2), .second, .val (.long q0_3), .second, .val (.int p0_4), .val (.long (own_v0_0 q0_0)), .second, .val (.long (own_v0_1 q0_0)), .second, .val (.long (own_v0_2 q0_1)), .second, .val (.long (own_v0_3 q0_1)), .second, .val (.long (own_v0_4 q0_2)), .second, .val (.long (own_v0_5 q0_2)), .second, .val (.int (p0_4 &&& (3 : Int32))), .val (.long (own_j0_16 q0_0 q0_1 q0_2 q0_3 p0_4)), .second, .val (.long (own_j0_17 q0_0 q0_1 q0_2 q0_3 p0_4)), .second, .val (.long (own_v0_18 q0_0 q0_1 q0_2)), .second, .val (.long (own_v0_19 q0_0 q0_1 q0_2 q0_3 p0_4)), .second, .val (.long (own_v0_20 q0_0 q0_1 q0_2 q0_3 p0_4)), .second, .val (.long (own_v0_21 q0_0 q0_1 q0_2 q0_3 p0_4)), .second, .val (.int (own_j0_22 q0_0 q0_1 q0_2 q0_3 p0_4)), .val (.ref bn0_24)] [(.ref bn0_24)])) _
      refine XT.lload Xk0_26.here hx rfl (hb hby at_299) rfl ?_
      show Steps p.tables e below (Tk0_26.setTop (mkF m 301 #[.val (.long q0_0), .second, .val (.long q0_1), .second, .val (.long q0_2), .second, .val (.long q0_3), .second, .val (.int p0_4), .val (.long (own_v0_0 q0_0)), .second, .val (.long (own_v0_1 q0_0)), .second, .val (.long (own_v0_2 q0_1)), .second, .val (.long (own_v0_3 q0_1)), .second, .val (.long (own_v0_4 q0_2)), .second, .val (.long (own_v0_5 q0_2)), .second, .val (.int (p0_4 &&& (3 : Int32))), .val (.long (own_j0_16 q0_0 q0_1 q0_2 q0_3 p0_4)), .second, .val (.long (own_j0_17 q0_0 q0_1 q0_2 q0_3 p0_4)), .second, .val (.long (own_v0_18 q0_0 q0_1 q0_2)), .second, .val (.long (own_v0_19 q0_0 q0_1 q0_2 q0_3 p0_4)), .second, .val (.long (own_v0_20 q0_0 q0_1 q0_2 q0_3 p0_4)), .second, .val (.long (own_v0_21 q0_0 q0_1 q0_2 q0_3 p0_4)), .second, .val (.int (own_j0_22 q0_0 q0_1 q0_2 q0_3 p0_4)), .val (.ref bn0_24)] [(.long (own_j0_16 q0_0 q0_1 q0_2 q0_3 p0_4)), (.ref bn0_24)])) _
      refine XS.l2dS Xk0_26.here hx rfl (hb hby at_301) rfl rfl ?_
      show Steps p.tables e below (Tk0_26.setTop (mkF m 302 #[.val (.long q0_0), .second, .val (.long q0_1), .second, .val (.long q0_2), .second, .val (.long q0_3), .second, .val (.int p0_4), .val (.long (own_v0_0 q0_0)), .second, .val (.long (own_v0_1 q0_0)), .second, .val (.long (own_v0_2 q0_1)), .second, .val (.long (own_v0_3 q0_1)), .second, .val (.long (own_v0_4 q0_2)), .second, .val (.long (own_v0_5 q0_2)), .second, .val (.int (p0_4 &&& (3 : Int32))), .val (.long (own_j0_16 q0_0 q0_1 q0_2 q0_3 p0_4)), .second, .val (.long (own_j0_17 q0_0 q0_1 q0_2 q0_3 p0_4)), .second, .val (.long (own_v0_18 q0_0 q0_1 q0_2)), .second, .val (.long (own_v0_19 q0_0 q0_1 q0_2 q0_3 p0_4)), .second, .val (.long (own_v0_20 q0_0 q0_1 q0_2 q0_3 p0_4)), .second, .val (.long (own_v0_21 q0_0 q0_1 q0_2 q0_3 p0_4)), .second, .val (.int (own_j0_22 q0_0 q0_1 q0_2 q0_3 p0_4)), .val (.ref bn0_24)] [(.double (FP.l2d (own_j0_16 q0_0 q0_1 q0_2 q0_3 p0_4))), (.ref bn0_24)])) _
      refine XT.lload Xk0_26.here hx rfl (hb hby at_302) rfl ?_
      show Steps p.tables e below (Tk0_26.setTop (mkF m 304 #[.val (.long q0_0), .second, .val (.long q0_1), .second, .val (.long q0_2), .second, .val (.long q0_3), .second, .val (.int p0_4), .val (.long (own_v0_0 q0_0)), .second, .val (.long (own_v0_1 q0_0)), .second, .val (.long (own_v0_2 q0_1)), .second, .val (.long (own_v0_3 q0_1)), .second, .val (.long (own_v0_4 q0_2)), .second, .val (.long (own_v0_5 q0_2)), .second, .val (.int (p0_4 &&& (3 : Int32))), .val (.long (own_j0_16 q0_0 q0_1 q0_2 q0_3 p0_4)), .second, .val (.long (own_j0_17 q0_0 q0_1 q0_2 q0_3 p0_4)), .second, .val (.long (own_v0_18 q0_0 q0_1 q0_2)), .second, .val (.long (own_v0_19 q0_0 q0_1 q0_2 q0_3 p0_4)), .second, .val (.long (own_v0_20 q0_0 q0_1 q0_2 q0_3 p0_4)), .second, .val (.long (own_v0_21 q0_0 q0_1 q0_2 q0_3 p0_4)), .second, .val (.int (own_j0_22 q0_0 q0_1 q0_2 q0_3 p0_4)), .val (.ref bn0_24)] [(.long (own_j0_17 q0_0 q0_1 q0_2 q0_3 p0_4)), (.double (FP.l2d (own_j0_16 q0_0 q0_1 q0_2 q0_3 p0_4))), (.ref bn0_24)])) _
      refine XS.l2dS Xk0_26.here hx rfl (hb hby at_304) rfl rfl ?_
      show Steps p.tables e below (Tk0_26.setTop (mkF m 305 #[.val (.long q0_0), .second, .val (.long q0_1), .second, .val (.long q0_2), .second, .val (.long q0_3), .second, .val (.int p0_4), .val (.long (own_v0_0 q0_0)), .second, .val (.long (own_v0_1 q0_0)), .second, .val (.long (own_v0_2 q0_1)), .second, .val (.long (own_v0_3 q0_1)), .second, .val (.long (own_v0_4 q0_2)), .second, .val (.long (own_v0_5 q0_2)), .second, .val (.int (p0_4 &&& (3 : Int32))), .val (.long (own_j0_16 q0_0 q0_1 q0_2 q0_3 p0_4)), .second, .val (.long (own_j0_17 q0_0 q0_1 q0_2 q0_3 p0_4)), .second, .val (.long (own_v0_18 q0_0 q0_1 q0_2)), .second, .val (.long (own_v0_19 q0_0 q0_1 q0_2 q0_3 p0_4)), .second, .val (.long (own_v0_20 q0_0 q0_1 q0_2 q0_3 p0_4)), .second, .val (.long (own_v0_21 q0_0 q0_1 q0_2 q0_3 p0_4)), .second, .val (.int (own_j0_22 q0_0 q0_1 q0_2 q0_3 p0_4)), .val (.ref bn0_24)] [(.double (FP.l2d (own_j0_17 q0_0 q0_1 q0_2 q0_3 p0_4))), (.double (FP.l2d (own_j0_16 q0_0 q0_1 q0_2 q0_3 p0_4))), (.ref bn0_24)])) _
      refine stk0_28.trans ?_
      show Steps p.tables e below (Tk0_28.setTop (mkF m 308 #[.val (.long q0_0), .second, .val (.long q0_1), .second, .val (.long q0_2), .second, .val (.long q0_3), .second, .val (.int p0_4), .val (.long (own_v0_0 q0_0)), .second, .val (.long (own_v0_1 q0_0)), .second, .val (.long (own_v0_2 q0_1)), .second, .val (.long (own_v0_3 q0_1)), .second, .val (.long (own_v0_4 q0_2)), .second, .val (.long (own_v0_5 q0_2)), .second, .val (.int (p0_4 &&& (3 : Int32))), .val (.long (own_j0_16 q0_0 q0_1 q0_2 q0_3 p0_4)), .second, .val (.long (own_j0_17 q0_0 q0_1 q0_2 q0_3 p0_4)), .second, .val (.long (own_v0_18 q0_0 q0_1 q0_2)), .second, .val (.long (own_v0_19 q0_0 q0_1 q0_2 q0_3 p0_4)), .second, .val (.long (own_v0_20 q0_0 q0_1 q0_2 q0_3 p0_4)), .second, .val (.long (own_v0_21 q0_0 q0_1 q0_2 q0_3 p0_4)), .second, .val (.int (own_j0_22 q0_0 q0_1 q0_2 q0_3 p0_4)), .val (.ref bn0_24)] [(.int (own_r6_6 (FP.l2d (own_j0_16 q0_0 q0_1 q0_2 q0_3 p0_4)) (FP.l2d (own_j0_17 q0_0 q0_1 q0_2 q0_3 p0_4)) (FP.l2d (own_v0_0 q0_0)) (FP.l2d (own_v0_2 q0_1)) (FP.l2d (own_v0_4 q0_2)) (FP.l2d (own_v0_1 q0_0)) (FP.l2d (own_v0_3 q0_1)) (FP.l2d (own_v0_5 q0_2))))])) _
      refine XS.iload Xk0_28.here hx rfl (hb hby at_308) rfl ?_
      show Steps p.tables e below (Tk0_28.setTop (mkF m 310 #[.val (.long q0_0), .second, .val (.long q0_1), .second, .val (.long q0_2), .second, .val (.long q0_3), .second, .val (.int p0_4), .val (.long (own_v0_0 q0_0)), .second, .val (.long (own_v0_1 q0_0)), .second, .val (.long (own_v0_2 q0_1)), .second, .val (.long (own_v0_3 q0_1)), .second, .val (.long (own_v0_4 q0_2)), .second, .val (.long (own_v0_5 q0_2)), .second, .val (.int (p0_4 &&& (3 : Int32))), .val (.long (own_j0_16 q0_0 q0_1 q0_2 q0_3 p0_4)), .second, .val (.long (own_j0_17 q0_0 q0_1 q0_2 q0_3 p0_4)), .second, .val (.long (own_v0_18 q0_0 q0_1 q0_2)), .second, .val (.long (own_v0_19 q0_0 q0_1 q0_2 q0_3 p0_4)), .second, .val (.long (own_v0_20 q0_0 q0_1 q0_2 q0_3 p0_4)), .second, .val (.long (own_v0_21 q0_0 q0_1 q0_2 q0_3 p0_4)), .second, .val (.int (own_j0_22 q0_0 q0_1 q0_2 q0_3 p0_4)), .val (.ref bn0_24)] [(.int (own_j0_22 q0_0 q0_1 q0_2 q0_3 p0_4)), (.int (own_r6_6 (FP.l2d (own_j0_16 q0_0 q0_1 q0_2 q0_3 p0_4)) (FP.l2d (own_j0_17 q0_0 q0_1 q0_2 q0_3 p0_4)) (FP.l2d (own_v0_0 q0_0)) (FP.l2d (own_v0_2 q0_1)) (FP.l2d (own_v0_4 q0_2)) (FP.l2d (own_v0_1 q0_0)) (FP.l2d (own_v0_3 q0_1)) (FP.l2d (own_v0_5 q0_2))))])) _
      refine XS.icmpNo Xk0_28.here hx rfl (hb hby at_310) rfl (XT.ii_ne_f hc310) ?_
      show Steps p.tables e below (Tk0_28.setTop (mkF m 313 #[.val (.long q0_0), .second, .val (.long q0_1), .second, .val (.long q0_2), .second, .val (.long q0_3), .second, .val (.int p0_4), .val (.long (own_v0_0 q0_0)), .second, .val (.long (own_v0_1 q0_0)), .second, .val (.long (own_v0_2 q0_1)), .second, .val (.long (own_v0_3 q0_1)), .second, .val (.long (own_v0_4 q0_2)), .second, .val (.long (own_v0_5 q0_2)), .second, .val (.int (p0_4 &&& (3 : Int32))), .val (.long (own_j0_16 q0_0 q0_1 q0_2 q0_3 p0_4)), .second, .val (.long (own_j0_17 q0_0 q0_1 q0_2 q0_3 p0_4)), .second, .val (.long (own_v0_18 q0_0 q0_1 q0_2)), .second, .val (.long (own_v0_19 q0_0 q0_1 q0_2 q0_3 p0_4)), .second, .val (.long (own_v0_20 q0_0 q0_1 q0_2 q0_3 p0_4)), .second, .val (.long (own_v0_21 q0_0 q0_1 q0_2 q0_3 p0_4)), .second, .val (.int (own_j0_22 q0_0 q0_1 q0_2 q0_3 p0_4)), .val (.ref bn0_24)] [])) _
      refine XS.iconst Xk0_28.here hx rfl (hb hby at_313) ?_
      show Steps p.tables e below (Tk0_28.setTop (mkF m 314 #[.val (.long q0_0), .second, .val (.long q0_1), .second, .val (.long q0_2), .second, .val (.long q0_3), .second, .val (.int p0_4), .val (.long (own_v0_0 q0_0)), .second, .val (.long (own_v0_1 q0_0)), .second, .val (.long (own_v0_2 q0_1)), .second, .val (.long (own_v0_3 q0_1)), .second, .val (.long (own_v0_4 q0_2)), .second, .val (.long (own_v0_5 q0_2)), .second, .val (.int (p0_4 &&& (3 : Int32))), .val (.long (own_j0_16 q0_0 q0_1 q0_2 q0_3 p0_4)), .second, .val (.long (own_j0_17 q0_0 q0_1 q0_2 q0_3 p0_4)), .second, .val (.long (own_v0_18 q0_0 q0_1 q0_2)), .second, .val (.long (own_v0_19 q0_0 q0_1 q0_2 q0_3 p0_4)), .second, .val (.long (own_v0_20 q0_0 q0_1 q0_2 q0_3 p0_4)), .second, .val (.long (own_v0_21 q0_0 q0_1 q0_2 q0_3 p0_4)), .second, .val (.int (own_j0_22 q0_0 q0_1 q0_2 q0_3 p0_4)), .val (.ref bn0_24)] [(.int (1 : Int32))])) _
      refine XS.goto Xk0_28.here hx rfl (pc0 := 314) (pc' := 318) rfl (hb hby at_314) (by decide) (by decide) ?_
      show Steps p.tables e below (Tk0_28.setTop (mkF m 318 #[.val (.long q0_0), .second, .val (.long q0_1), .second, .val (.long q0_2), .second, .val (.long q0_3), .second, .val (.int p0_4), .val (.long (own_v0_0 q0_0)), .second, .val (.long (own_v0_1 q0_0)), .second, .val (.long (own_v0_2 q0_1)), .second, .val (.long (own_v0_3 q0_1)), .second, .val (.long (own_v0_4 q0_2)), .second, .val (.long (own_v0_5 q0_2)), .second, .val (.int (p0_4 &&& (3 : Int32))), .val (.long (own_j0_16 q0_0 q0_1 q0_2 q0_3 p0_4)), .second, .val (.long (own_j0_17 q0_0 q0_1 q0_2 q0_3 p0_4)), .second, .val (.long (own_v0_18 q0_0 q0_1 q0_2)), .second, .val (.long (own_v0_19 q0_0 q0_1 q0_2 q0_3 p0_4)), .second, .val (.long (own_v0_20 q0_0 q0_1 q0_2 q0_3 p0_4)), .second, .val (.long (own_v0_21 q0_0 q0_1 q0_2 q0_3 p0_4)), .second, .val (.int (own_j0_22 q0_0 q0_1 q0_2 q0_3 p0_4)), .val (.ref bn0_24)] [(.int (1 : Int32))])) _
      exact retN Xk0_28 hx (t := .boolean) Bd.returns (by simp) (hb hby at_318) hr
    · show own_Q0 Z q0_0 q0_1 q0_2 q0_3 p0_4 h0 n0 _ Tk0_28.heap _
      rw [ek0_28]
      exact ⟨rfl, Nk0_28⟩
abbrev own_in (a : Int64) (B : Int) : Prop := -B ≤ a.toInt ∧ a.toInt ≤ B
theorem own_c24 (x : Int32) : own_in (own_r1_0 x).toInt64 8388608 := by
  unfold own_in
  rw [Jvm.Kit.i64_of_i32]
  unfold own_r1_0
  rw [Jvm.Kit.i32_shr _ _ (k := 8) (by decide)]
  have b1 := Int32.le_toInt (x <<< ((8 : Int32) &&& 31)); have b2 := Int32.toInt_lt (x <<< ((8 : Int32) &&& 31))
  omega
theorem own_two {a b : Int64} (ha : own_in a 8388608) (hb : own_in b 8388608) : own_in ((2 : Int64) * a - b) 25165824 := by
  have e : (2 : Int64).toInt = 2 := by decide
  have m : ((2 : Int64) * a).toInt = 2 * a.toInt := by rw [Jvm.Kit.i64_mul (by rw [e]; omega) (by rw [e]; omega), e]
  have s : ((2 : Int64) * a - b).toInt = 2 * a.toInt - b.toInt := by rw [Jvm.Kit.i64_sub (by rw [m]; omega) (by rw [m]; omega), m]
  unfold own_in; rw [s]; omega
theorem own_mid {a b : Int64} (ha : own_in a 8388608) (hb : own_in b 8388608) : own_in ((a + b) >>> ((1 : Int32).toInt64 &&& 63)) 25165824 := by
  have s : (a + b).toInt = a.toInt + b.toInt := Jvm.Kit.i64_add (by omega) (by omega)
  unfold own_in
  rw [Jvm.Kit.i64_shr _ _ (k := 1) (by decide), s]; omega
theorem own_up {a : Int64} (ha : own_in a 8388608) : own_in a 25165824 := by unfold own_in at *; omega
section P
variable (q0_0 q0_1 q0_2 q0_3 : Int64) (p0_4 : Int32)
theorem own_px : own_in (own_j0_16 q0_0 q0_1 q0_2 q0_3 p0_4) 25165824 := by
  unfold own_j0_16; split
  · exact own_up (own_c24 _)
  · unfold own_j0_14; split
    · exact own_up (own_c24 _)
    · unfold own_j0_12; split
      · exact own_two (own_c24 _) (own_c24 _)
      · exact own_mid (own_c24 _) (own_c24 _)
theorem own_py : own_in (own_j0_17 q0_0 q0_1 q0_2 q0_3 p0_4) 25165824 := by
  unfold own_j0_17; split
  · exact own_up (own_c24 _)
  · unfold own_j0_15; split
    · exact own_up (own_c24 _)
    · unfold own_j0_13; split
      · exact own_two (own_c24 _) (own_c24 _)
      · exact own_mid (own_c24 _) (own_c24 _)
end P
/-- the cross product, in whole numbers -/
def own_cr (ax ay bx by_ px py : Int) : Int := (bx - ax) * (py - ay) - (by_ - ay) * (px - ax)
theorem own_pb {a b : Int} (h1 : a.natAbs ≤ 16777216) (h2 : b.natAbs ≤ 33554432) : -562949953421312 ≤ a * b ∧ a * b ≤ 562949953421312 := by
  have q : (a * b).natAbs ≤ 16777216 * 33554432 := by rw [Int.natAbs_mul]; exact Nat.mul_le_mul h1 h2
  omega
section S
variable {ax ay bx by_ px py : Int64} (h1 : own_in ax 8388608) (h2 : own_in ay 8388608) (h3 : own_in bx 8388608) (h4 : own_in by_ 8388608) (h5 : own_in px 25165824) (h6 : own_in py 25165824)
theorem own_ld {a : Int64} (h : own_in a 25165824) : own_is a.toInt (FP.l2d a) := own_is_l2d (by have := h.1; have := h.2; omega)
theorem own_df {a b : Int64} (h : own_in a 25165824) (h' : own_in b 25165824) : own_is (a.toInt - b.toInt) (FP.dsub (FP.l2d a) (FP.l2d b)) := own_is_sub (own_ld h) (own_ld h') (by have := h.1; have := h.2; have := h'.1; have := h'.2; omega)
theorem own_ml {a b c d : Int64} (ha : own_in a 8388608) (hb : own_in b 8388608) (hc : own_in c 25165824) (hd : own_in d 8388608) : own_is ((a.toInt - b.toInt) * (c.toInt - d.toInt)) (FP.dmul (FP.dsub (FP.l2d a) (FP.l2d b)) (FP.dsub (FP.l2d c) (FP.l2d d))) := by
  have q := own_pb (a := a.toInt - b.toInt) (b := c.toInt - d.toInt) (by have := ha.1; have := ha.2; have := hb.1; have := hb.2; omega) (by have := hc.1; have := hc.2; have := hd.1; have := hd.2; omega)
  exact own_is_mul (own_df (own_up ha) (own_up hb)) (own_df hc (own_up hd)) (by omega)
theorem own_sd (h1 : own_in ax 8388608) (h2 : own_in ay 8388608) (h3 : own_in bx 8388608) (h4 : own_in by_ 8388608) (h5 : own_in px 25165824) (h6 : own_in py 25165824) :
    own_is (own_cr ax.toInt ay.toInt bx.toInt by_.toInt px.toInt py.toInt) (FP.dsub (FP.dmul (FP.dsub (FP.l2d bx) (FP.l2d ax)) (FP.dsub (FP.l2d py) (FP.l2d ay))) (FP.dmul (FP.dsub (FP.l2d by_) (FP.l2d ay)) (FP.dsub (FP.l2d px) (FP.l2d ax)))) := by
  have q1 := own_pb (a := bx.toInt - ax.toInt) (b := py.toInt - ay.toInt) (by have := h3.1; have := h3.2; have := h1.1; have := h1.2; omega) (by have := h6.1; have := h6.2; have := h2.1; have := h2.2; omega)
  have q2 := own_pb (a := by_.toInt - ay.toInt) (b := px.toInt - ax.toInt) (by have := h4.1; have := h4.2; have := h2.1; have := h2.2; omega) (by have := h5.1; have := h5.2; have := h1.1; have := h1.2; omega)
  exact own_is_sub (own_ml h3 h1 h6 h2) (own_ml h4 h2 h5 h1) (by omega)
theorem own_cl (h1 : own_in ax 8388608) (h2 : own_in ay 8388608) (h3 : own_in bx 8388608) (h4 : own_in by_ 8388608) (h5 : own_in px 25165824) (h6 : own_in py 25165824) :
    (own_r2_0 ax ay bx by_ px py).toInt = own_cr ax.toInt ay.toInt bx.toInt by_.toInt px.toInt py.toInt ∧ (own_r2_0 ax ay bx by_ px py).toInt.natAbs ≤ 1125899906842624 := by
  have q1 := own_pb (a := bx.toInt - ax.toInt) (b := py.toInt - ay.toInt) (by have := h3.1; have := h3.2; have := h1.1; have := h1.2; omega) (by have := h6.1; have := h6.2; have := h2.1; have := h2.2; omega)
  have q2 := own_pb (a := by_.toInt - ay.toInt) (b := px.toInt - ax.toInt) (by have := h4.1; have := h4.2; have := h2.1; have := h2.2; omega) (by have := h5.1; have := h5.2; have := h1.1; have := h1.2; omega)
  have b1 := h1.1; have b2 := h1.2; have b3 := h2.1; have b4 := h2.2; have b5 := h3.1; have b6 := h3.2; have b7 := h4.1; have b8 := h4.2; have b9 := h5.1; have b10 := h5.2; have b11 := h6.1; have b12 := h6.2
  have s1 : (bx - ax).toInt = bx.toInt - ax.toInt := Jvm.Kit.i64_sub (by omega) (by omega)
  have s2 : (py - ay).toInt = py.toInt - ay.toInt := Jvm.Kit.i64_sub (by omega) (by omega)
  have s3 : (by_ - ay).toInt = by_.toInt - ay.toInt := Jvm.Kit.i64_sub (by omega) (by omega)
  have s4 : (px - ax).toInt = px.toInt - ax.toInt := Jvm.Kit.i64_sub (by omega) (by omega)
  have m1 : ((bx - ax) * (py - ay)).toInt = (bx.toInt - ax.toInt) * (py.toInt - ay.toInt) := by rw [Jvm.Kit.i64_mul (by rw [s1, s2]; omega) (by rw [s1, s2]; omega), s1, s2]
  have m2 : ((by_ - ay) * (px - ax)).toInt = (by_.toInt - ay.toInt) * (px.toInt - ax.toInt) := by rw [Jvm.Kit.i64_mul (by rw [s3, s4]; omega) (by rw [s3, s4]; omega), s3, s4]
  have e : (own_r2_0 ax ay bx by_ px py).toInt = own_cr ax.toInt ay.toInt bx.toInt by_.toInt px.toInt py.toInt := by
    unfold own_r2_0 own_cr
    rw [Jvm.Kit.i64_sub (by rw [m1, m2]; omega) (by rw [m1, m2]; omega), m1, m2]
  exact ⟨e, by rw [e]; unfold own_cr; omega⟩
end S
theorem own_sum (ax ay bx by_ cx cy px py : Int) : own_cr ax ay bx by_ px py + own_cr bx by_ cx cy px py + own_cr cx cy ax ay px py = own_cr ax ay bx by_ cx cy := by
  unfold own_cr; grind
theorem own_abs {a : Int64} (h : a.toInt.natAbs ≤ 1125899906842624) : (own_j3_0 a).toInt = (a.toInt.natAbs : Int) := by
  have z : (0 : Int64).toInt = 0 := by decide
  unfold own_j3_0
  split
  · rename_i q; rw [Int64.lt_iff_toInt_lt, z] at q
    rw [Jvm.Kit.i64_neg (by omega)]; omega
  · rename_i q; rw [Int64.lt_iff_toInt_lt, z] at q; omega
/-- the law's answer -/
theorem own_exp {w a b c : Int64} (hw : w.toInt.natAbs ≤ 1125899906842624) (ha : a.toInt.natAbs ≤ 1125899906842624) (hb : b.toInt.natAbs ≤ 1125899906842624) (hc : c.toInt.natAbs ≤ 1125899906842624) (e : a.toInt + b.toInt + c.toInt = w.toInt) :
    (own_j3_0 w = own_j3_0 a + own_j3_0 b + own_j3_0 c) ↔ ((0 ≤ a.toInt ∧ 0 ≤ b.toInt ∧ 0 ≤ c.toInt) ∨ (a.toInt ≤ 0 ∧ b.toInt ≤ 0 ∧ c.toInt ≤ 0)) := by
  have jw := own_abs hw; have ja := own_abs ha; have jb := own_abs hb; have jc := own_abs hc
  have s1 : (own_j3_0 a + own_j3_0 b).toInt = (a.toInt.natAbs : Int) + b.toInt.natAbs := by rw [Jvm.Kit.i64_add (by rw [ja, jb]; omega) (by rw [ja, jb]; omega), ja, jb]
  have s2 : (own_j3_0 a + own_j3_0 b + own_j3_0 c).toInt = (a.toInt.natAbs : Int) + b.toInt.natAbs + c.toInt.natAbs := by rw [Jvm.Kit.i64_add (by rw [s1, jc]; omega) (by rw [s1, jc]; omega), s1, jc]
  rw [← Int64.toInt_inj, jw, s2]
  omega
def own_sg (s : Int) : Int32 := if s < 0 then -1 else if s = 0 then 0 else 1
theorem own_cm {a : UInt64} {s : Int} (h : own_is s a) (o : CmpOp) : cmpValue (FP.dcmp a (0 : UInt64)) o = own_sg s := own_cmpU h own_is_0 o
theorem own_geo (s0 s1 s2 : Int) (P : Prop) [Decidable P] (e : P ↔ ((0 ≤ s0 ∧ 0 ≤ s1 ∧ 0 ≤ s2) ∨ (s0 ≤ 0 ∧ s1 ≤ 0 ∧ s2 ≤ 0))) :
    nar .boolean (if own_sg s0 < (0 : Int32) then (if (0 : Int32) < own_sg s0 then (0 : Int32) else (if (0 : Int32) < own_sg s1 then (0 : Int32) else (if (0 : Int32) < own_sg s2 then (0 : Int32) else (1 : Int32))))
      else (if own_sg s1 < (0 : Int32) then (if (0 : Int32) < own_sg s0 then (0 : Int32) else (if (0 : Int32) < own_sg s1 then (0 : Int32) else (if (0 : Int32) < own_sg s2 then (0 : Int32) else (1 : Int32))))
      else (if own_sg s2 < (0 : Int32) then (if (0 : Int32) < own_sg s0 then (0 : Int32) else (if (0 : Int32) < own_sg s1 then (0 : Int32) else (if (0 : Int32) < own_sg s2 then (0 : Int32) else (1 : Int32)))) else (1 : Int32)))) = if P then (1 : Int32) else (0 : Int32) := by
  have sg : ∀ s : Int, (s < 0 ∧ own_sg s = -1) ∨ (s = 0 ∧ own_sg s = 0) ∨ (0 < s ∧ own_sg s = 1) := fun s => by
    unfold own_sg
    rcases Int.lt_trichotomy s 0 with h | h | h
    · exact Or.inl ⟨h, if_pos h⟩
    · exact Or.inr (Or.inl ⟨h, by rw [if_neg (by omega), if_pos h]⟩)
    · exact Or.inr (Or.inr ⟨h, by rw [if_neg (by omega), if_neg (by omega)]⟩)
  rcases sg s0 with ⟨a, a'⟩ | ⟨a, a'⟩ | ⟨a, a'⟩ <;> rcases sg s1 with ⟨b, b'⟩ | ⟨b, b'⟩ | ⟨b, b'⟩ <;> rcases sg s2 with ⟨c, c'⟩ | ⟨c, c'⟩ | ⟨c, c'⟩ <;> rw [a', b', c'] <;>
    first
      | (rw [if_pos (show P from e.mpr (by omega))]; decide)
      | (rw [if_neg (show ¬ P from fun h => by have := e.mp h; omega)]; decide)
section X
variable (q0_0 q0_1 q0_2 q0_3 : Int64) (p0_4 : Int32)
theorem own_d0 : own_is (own_cr (own_v0_0 q0_0).toInt (own_v0_1 q0_0).toInt (own_v0_2 q0_1).toInt (own_v0_3 q0_1).toInt (own_j0_16 q0_0 q0_1 q0_2 q0_3 p0_4).toInt (own_j0_17 q0_0 q0_1 q0_2 q0_3 p0_4).toInt) (own_r7k0_0 (FP.l2d (own_j0_16 q0_0 q0_1 q0_2 q0_3 p0_4)) (FP.l2d (own_j0_17 q0_0 q0_1 q0_2 q0_3 p0_4)) (FP.l2d (own_v0_0 q0_0)) (FP.l2d (own_v0_2 q0_1)) (FP.l2d (own_v0_1 q0_0)) (FP.l2d (own_v0_3 q0_1))) :=
  own_sd (own_c24 _) (own_c24 _) (own_c24 _) (own_c24 _) (own_px _ _ _ _ _) (own_py _ _ _ _ _)
theorem own_d1 : own_is (own_cr (own_v0_2 q0_1).toInt (own_v0_3 q0_1).toInt (own_v0_4 q0_2).toInt (own_v0_5 q0_2).toInt (own_j0_16 q0_0 q0_1 q0_2 q0_3 p0_4).toInt (own_j0_17 q0_0 q0_1 q0_2 q0_3 p0_4).toInt) (own_r7k1_0 (FP.l2d (own_j0_16 q0_0 q0_1 q0_2 q0_3 p0_4)) (FP.l2d (own_j0_17 q0_0 q0_1 q0_2 q0_3 p0_4)) (FP.l2d (own_v0_2 q0_1)) (FP.l2d (own_v0_4 q0_2)) (FP.l2d (own_v0_3 q0_1)) (FP.l2d (own_v0_5 q0_2))) :=
  own_sd (own_c24 _) (own_c24 _) (own_c24 _) (own_c24 _) (own_px _ _ _ _ _) (own_py _ _ _ _ _)
theorem own_d2 : own_is (own_cr (own_v0_4 q0_2).toInt (own_v0_5 q0_2).toInt (own_v0_0 q0_0).toInt (own_v0_1 q0_0).toInt (own_j0_16 q0_0 q0_1 q0_2 q0_3 p0_4).toInt (own_j0_17 q0_0 q0_1 q0_2 q0_3 p0_4).toInt) (own_r7k2_0 (FP.l2d (own_j0_16 q0_0 q0_1 q0_2 q0_3 p0_4)) (FP.l2d (own_j0_17 q0_0 q0_1 q0_2 q0_3 p0_4)) (FP.l2d (own_v0_0 q0_0)) (FP.l2d (own_v0_4 q0_2)) (FP.l2d (own_v0_1 q0_0)) (FP.l2d (own_v0_5 q0_2))) :=
  own_sd (own_c24 _) (own_c24 _) (own_c24 _) (own_c24 _) (own_px _ _ _ _ _) (own_py _ _ _ _ _)
end X
theorem own_x_c305_c4_nn20 (q0_0 : Int64) (q0_1 : Int64) (q0_2 : Int64) (q0_3 : Int64) (p0_4 : Int32) : NoNaN64 (FP.dsub (FP.l2d (own_v0_2 q0_1)) (FP.l2d (own_v0_0 q0_0))) := own_fin_nn (own_df (own_up (own_c24 _)) (own_up (own_c24 _))).1
theorem own_x_c305_c4_nn29 (q0_0 : Int64) (q0_1 : Int64) (q0_2 : Int64) (q0_3 : Int64) (p0_4 : Int32) : NoNaN64 (FP.dsub (FP.l2d (own_j0_17 q0_0 q0_1 q0_2 q0_3 p0_4)) (FP.l2d (own_v0_1 q0_0))) := own_fin_nn (own_df (own_py _ _ _ _ _) (own_up (own_c24 _))).1
theorem own_x_c305_c4_nn30 (q0_0 : Int64) (q0_1 : Int64) (q0_2 : Int64) (q0_3 : Int64) (p0_4 : Int32) : NoNaN64 (FP.dmul (FP.dsub (FP.l2d (own_v0_2 q0_1)) (FP.l2d (own_v0_0 q0_0))) (FP.dsub (FP.l2d (own_j0_17 q0_0 q0_1 q0_2 q0_3 p0_4)) (FP.l2d (own_v0_1 q0_0)))) := own_fin_nn (own_ml (own_c24 _) (own_c24 _) (own_py _ _ _ _ _) (own_c24 _)).1
theorem own_x_c305_c4_nn44 (q0_0 : Int64) (q0_1 : Int64) (q0_2 : Int64) (q0_3 : Int64) (p0_4 : Int32) : NoNaN64 (FP.dsub (FP.l2d (own_v0_3 q0_1)) (FP.l2d (own_v0_1 q0_0))) := own_fin_nn (own_df (own_up (own_c24 _)) (own_up (own_c24 _))).1
theorem own_x_c305_c4_nn52 (q0_0 : Int64) (q0_1 : Int64) (q0_2 : Int64) (q0_3 : Int64) (p0_4 : Int32) : NoNaN64 (FP.dsub (FP.l2d (own_j0_16 q0_0 q0_1 q0_2 q0_3 p0_4)) (FP.l2d (own_v0_0 q0_0))) := own_fin_nn (own_df (own_px _ _ _ _ _) (own_up (own_c24 _))).1
theorem own_x_c305_c4_nn53 (q0_0 : Int64) (q0_1 : Int64) (q0_2 : Int64) (q0_3 : Int64) (p0_4 : Int32) : NoNaN64 (FP.dmul (FP.dsub (FP.l2d (own_v0_3 q0_1)) (FP.l2d (own_v0_1 q0_0))) (FP.dsub (FP.l2d (own_j0_16 q0_0 q0_1 q0_2 q0_3 p0_4)) (FP.l2d (own_v0_0 q0_0)))) := own_fin_nn (own_ml (own_c24 _) (own_c24 _) (own_px _ _ _ _ _) (own_c24 _)).1
theorem own_x_c305_c4_nn54 (q0_0 : Int64) (q0_1 : Int64) (q0_2 : Int64) (q0_3 : Int64) (p0_4 : Int32) : NoNaN64 (FP.dsub (FP.dmul (FP.dsub (FP.l2d (own_v0_2 q0_1)) (FP.l2d (own_v0_0 q0_0))) (FP.dsub (FP.l2d (own_j0_17 q0_0 q0_1 q0_2 q0_3 p0_4)) (FP.l2d (own_v0_1 q0_0)))) (FP.dmul (FP.dsub (FP.l2d (own_v0_3 q0_1)) (FP.l2d (own_v0_1 q0_0))) (FP.dsub (FP.l2d (own_j0_16 q0_0 q0_1 q0_2 q0_3 p0_4)) (FP.l2d (own_v0_0 q0_0))))) := own_fin_nn (own_d0 q0_0 q0_1 q0_2 q0_3 p0_4).1
theorem own_x_c305_c13_nn20 (q0_0 : Int64) (q0_1 : Int64) (q0_2 : Int64) (q0_3 : Int64) (p0_4 : Int32) : NoNaN64 (FP.dsub (FP.l2d (own_v0_4 q0_2)) (FP.l2d (own_v0_2 q0_1))) := own_fin_nn (own_df (own_up (own_c24 _)) (own_up (own_c24 _))).1
theorem own_x_c305_c13_nn29 (q0_0 : Int64) (q0_1 : Int64) (q0_2 : Int64) (q0_3 : Int64) (p0_4 : Int32) : NoNaN64 (FP.dsub (FP.l2d (own_j0_17 q0_0 q0_1 q0_2 q0_3 p0_4)) (FP.l2d (own_v0_3 q0_1))) := own_fin_nn (own_df (own_py _ _ _ _ _) (own_up (own_c24 _))).1
theorem own_x_c305_c13_nn30 (q0_0 : Int64) (q0_1 : Int64) (q0_2 : Int64) (q0_3 : Int64) (p0_4 : Int32) : NoNaN64 (FP.dmul (FP.dsub (FP.l2d (own_v0_4 q0_2)) (FP.l2d (own_v0_2 q0_1))) (FP.dsub (FP.l2d (own_j0_17 q0_0 q0_1 q0_2 q0_3 p0_4)) (FP.l2d (own_v0_3 q0_1)))) := own_fin_nn (own_ml (own_c24 _) (own_c24 _) (own_py _ _ _ _ _) (own_c24 _)).1
theorem own_x_c305_c13_nn44 (q0_0 : Int64) (q0_1 : Int64) (q0_2 : Int64) (q0_3 : Int64) (p0_4 : Int32) : NoNaN64 (FP.dsub (FP.l2d (own_v0_5 q0_2)) (FP.l2d (own_v0_3 q0_1))) := own_fin_nn (own_df (own_up (own_c24 _)) (own_up (own_c24 _))).1
theorem own_x_c305_c13_nn52 (q0_0 : Int64) (q0_1 : Int64) (q0_2 : Int64) (q0_3 : Int64) (p0_4 : Int32) : NoNaN64 (FP.dsub (FP.l2d (own_j0_16 q0_0 q0_1 q0_2 q0_3 p0_4)) (FP.l2d (own_v0_2 q0_1))) := own_fin_nn (own_df (own_px _ _ _ _ _) (own_up (own_c24 _))).1
theorem own_x_c305_c13_nn53 (q0_0 : Int64) (q0_1 : Int64) (q0_2 : Int64) (q0_3 : Int64) (p0_4 : Int32) : NoNaN64 (FP.dmul (FP.dsub (FP.l2d (own_v0_5 q0_2)) (FP.l2d (own_v0_3 q0_1))) (FP.dsub (FP.l2d (own_j0_16 q0_0 q0_1 q0_2 q0_3 p0_4)) (FP.l2d (own_v0_2 q0_1)))) := own_fin_nn (own_ml (own_c24 _) (own_c24 _) (own_px _ _ _ _ _) (own_c24 _)).1
theorem own_x_c305_c13_nn54 (q0_0 : Int64) (q0_1 : Int64) (q0_2 : Int64) (q0_3 : Int64) (p0_4 : Int32) : NoNaN64 (FP.dsub (FP.dmul (FP.dsub (FP.l2d (own_v0_4 q0_2)) (FP.l2d (own_v0_2 q0_1))) (FP.dsub (FP.l2d (own_j0_17 q0_0 q0_1 q0_2 q0_3 p0_4)) (FP.l2d (own_v0_3 q0_1)))) (FP.dmul (FP.dsub (FP.l2d (own_v0_5 q0_2)) (FP.l2d (own_v0_3 q0_1))) (FP.dsub (FP.l2d (own_j0_16 q0_0 q0_1 q0_2 q0_3 p0_4)) (FP.l2d (own_v0_2 q0_1))))) := own_fin_nn (own_d1 q0_0 q0_1 q0_2 q0_3 p0_4).1
theorem own_x_c305_c22_nn20 (q0_0 : Int64) (q0_1 : Int64) (q0_2 : Int64) (q0_3 : Int64) (p0_4 : Int32) : NoNaN64 (FP.dsub (FP.l2d (own_v0_0 q0_0)) (FP.l2d (own_v0_4 q0_2))) := own_fin_nn (own_df (own_up (own_c24 _)) (own_up (own_c24 _))).1
theorem own_x_c305_c22_nn29 (q0_0 : Int64) (q0_1 : Int64) (q0_2 : Int64) (q0_3 : Int64) (p0_4 : Int32) : NoNaN64 (FP.dsub (FP.l2d (own_j0_17 q0_0 q0_1 q0_2 q0_3 p0_4)) (FP.l2d (own_v0_5 q0_2))) := own_fin_nn (own_df (own_py _ _ _ _ _) (own_up (own_c24 _))).1
theorem own_x_c305_c22_nn30 (q0_0 : Int64) (q0_1 : Int64) (q0_2 : Int64) (q0_3 : Int64) (p0_4 : Int32) : NoNaN64 (FP.dmul (FP.dsub (FP.l2d (own_v0_0 q0_0)) (FP.l2d (own_v0_4 q0_2))) (FP.dsub (FP.l2d (own_j0_17 q0_0 q0_1 q0_2 q0_3 p0_4)) (FP.l2d (own_v0_5 q0_2)))) := own_fin_nn (own_ml (own_c24 _) (own_c24 _) (own_py _ _ _ _ _) (own_c24 _)).1
theorem own_x_c305_c22_nn44 (q0_0 : Int64) (q0_1 : Int64) (q0_2 : Int64) (q0_3 : Int64) (p0_4 : Int32) : NoNaN64 (FP.dsub (FP.l2d (own_v0_1 q0_0)) (FP.l2d (own_v0_5 q0_2))) := own_fin_nn (own_df (own_up (own_c24 _)) (own_up (own_c24 _))).1
theorem own_x_c305_c22_nn52 (q0_0 : Int64) (q0_1 : Int64) (q0_2 : Int64) (q0_3 : Int64) (p0_4 : Int32) : NoNaN64 (FP.dsub (FP.l2d (own_j0_16 q0_0 q0_1 q0_2 q0_3 p0_4)) (FP.l2d (own_v0_4 q0_2))) := own_fin_nn (own_df (own_px _ _ _ _ _) (own_up (own_c24 _))).1
theorem own_x_c305_c22_nn53 (q0_0 : Int64) (q0_1 : Int64) (q0_2 : Int64) (q0_3 : Int64) (p0_4 : Int32) : NoNaN64 (FP.dmul (FP.dsub (FP.l2d (own_v0_1 q0_0)) (FP.l2d (own_v0_5 q0_2))) (FP.dsub (FP.l2d (own_j0_16 q0_0 q0_1 q0_2 q0_3 p0_4)) (FP.l2d (own_v0_4 q0_2)))) := own_fin_nn (own_ml (own_c24 _) (own_c24 _) (own_px _ _ _ _ _) (own_c24 _)).1
theorem own_x_c305_c22_nn54 (q0_0 : Int64) (q0_1 : Int64) (q0_2 : Int64) (q0_3 : Int64) (p0_4 : Int32) : NoNaN64 (FP.dsub (FP.dmul (FP.dsub (FP.l2d (own_v0_0 q0_0)) (FP.l2d (own_v0_4 q0_2))) (FP.dsub (FP.l2d (own_j0_17 q0_0 q0_1 q0_2 q0_3 p0_4)) (FP.l2d (own_v0_5 q0_2)))) (FP.dmul (FP.dsub (FP.l2d (own_v0_1 q0_0)) (FP.l2d (own_v0_5 q0_2))) (FP.dsub (FP.l2d (own_j0_16 q0_0 q0_1 q0_2 q0_3 p0_4)) (FP.l2d (own_v0_4 q0_2))))) := own_fin_nn (own_d2 q0_0 q0_1 q0_2 q0_3 p0_4).1
section X2
variable (q0_0 q0_1 q0_2 q0_3 : Int64) (p0_4 : Int32)
theorem own_x_hc310 : (own_r6_6 (FP.l2d (own_j0_16 q0_0 q0_1 q0_2 q0_3 p0_4)) (FP.l2d (own_j0_17 q0_0 q0_1 q0_2 q0_3 p0_4)) (FP.l2d (own_v0_0 q0_0)) (FP.l2d (own_v0_2 q0_1)) (FP.l2d (own_v0_4 q0_2)) (FP.l2d (own_v0_1 q0_0)) (FP.l2d (own_v0_3 q0_1)) (FP.l2d (own_v0_5 q0_2))) = (own_j0_22 q0_0 q0_1 q0_2 q0_3 p0_4) := by
  have hp := own_px q0_0 q0_1 q0_2 q0_3 p0_4; have hq := own_py q0_0 q0_1 q0_2 q0_3 p0_4
  have w := own_cl (own_c24 q0_0.toInt32) (own_c24 (XT.ushrL q0_0 (32 : Int32)).toInt32) (own_c24 q0_1.toInt32) (own_c24 (XT.ushrL q0_1 (32 : Int32)).toInt32) (own_up (own_c24 q0_2.toInt32)) (own_up (own_c24 (XT.ushrL q0_2 (32 : Int32)).toInt32))
  have a := own_cl (own_c24 q0_0.toInt32) (own_c24 (XT.ushrL q0_0 (32 : Int32)).toInt32) (own_c24 q0_1.toInt32) (own_c24 (XT.ushrL q0_1 (32 : Int32)).toInt32) hp hq
  have b := own_cl (own_c24 q0_1.toInt32) (own_c24 (XT.ushrL q0_1 (32 : Int32)).toInt32) (own_c24 q0_2.toInt32) (own_c24 (XT.ushrL q0_2 (32 : Int32)).toInt32) hp hq
  have c := own_cl (own_c24 q0_2.toInt32) (own_c24 (XT.ushrL q0_2 (32 : Int32)).toInt32) (own_c24 q0_0.toInt32) (own_c24 (XT.ushrL q0_0 (32 : Int32)).toInt32) hp hq
  have e := own_exp w.2 a.2 b.2 c.2 (by rw [w.1, a.1, b.1, c.1]; exact own_sum _ _ _ _ _ _ _ _)
  have f0 := own_d0 q0_0 q0_1 q0_2 q0_3 p0_4; have f1 := own_d1 q0_0 q0_1 q0_2 q0_3 p0_4; have f2 := own_d2 q0_0 q0_1 q0_2 q0_3 p0_4
  rw [a.1, b.1, c.1] at e
  unfold own_r6_6 own_j6_5 own_j6_4 own_j6_3 own_j6_2 own_j6_1 own_j6_0
  rw [own_cm f0, own_cm f0, own_cm f1, own_cm f1, own_cm f2, own_cm f2]
  unfold own_j0_22
  exact own_geo _ _ _ _ e
end X2

set_option maxRecDepth 65536 in
set_option maxHeartbeats 40000000 in
theorem comes_1 {Post : Tables → Env → Array Value → State → Outcome → State → Prop} (hpost : ∀ tb e args s v u, (limb_1_1.after args s (.returned v) u = true ∧ limb_1_2.after args s (.returned v) u = true ∧ True) → FrameEnd s (.returned v) u (Jvm.fieldLocs frame_1_writes args s ++ Jvm.arrayLocs frame_1_arrays args s ++ Jvm.staticLocs frame_1_statics s) 16 128 → Post tb e args s (.returned v) u) :
    ArmFor flags0 classFile x code maxLocals ret World_1 tables_1 room_1 Calls_1 rest_1 Pre_1 Post := by
  intro l hfl _ _ p e ha hc hk s m args below hf hA hF happ hP
  obtain ⟨hcalls, hrest, hpre⟩ := hP
  obtain ⟨-, -, -, hnamed, -, -, -, hat⟩ := (Spec.applies_iff hf).mp happ
  obtain ⟨hg, hn⟩ := and_e (Cond.before_iff.mp (show (Jvm.Cond.and given_1 narrow_1).before args s = true from hpre))
  obtain ⟨g1a, g1b⟩ := and_e hg
  obtain ⟨g2a, g2b⟩ := and_e g1b
  obtain ⟨g3a, g3b⟩ := and_e g2b
  obtain ⟨g4a, g4b⟩ := and_e g3b
  obtain ⟨g5a, g5b⟩ := and_e g4b
  obtain ⟨w0, w1, w2, w3, w4, rfl⟩ : ∃ w0 w1 w2 w3 w4 : Value, args = #[w0, w1, w2, w3, w4] := by
    have hs : args.size = 5 := by simpa [Cond.value, given_1] using g1a
    obtain ⟨L⟩ := args
    match L, hs with
    | [w0, w1, w2, w3, w4], _ => exact ⟨w0, w1, w2, w3, w4, rfl⟩
  have hw := fun d (hd : d ∈ tables_1) => atoms_spec (ws := Jvm.Cond.code x code maxLocals ret :: tables_1) hat d (List.mem_cons_of_mem _ hd)
  obtain ⟨i0, ei0⟩ := isL_v g2a
  obtain rfl : w0 = (.long i0) := Option.some.inj ei0
  obtain ⟨i1, ei1⟩ := isL_v g3a
  obtain rfl : w1 = (.long i1) := Option.some.inj ei1
  obtain ⟨i2, ei2⟩ := isL_v g4a
  obtain rfl : w2 = (.long i2) := Option.some.inj ei2
  obtain ⟨i3, ei3⟩ := isL_v g5a
  obtain rfl : w3 = (.long i3) := Option.some.inj ei3
  obtain ⟨i4, ei4⟩ := is_v g5b
  obtain rfl : w4 = (.int i4) := Option.some.inj ei4
  obtain ⟨n, o, h1, h2, h3, _, L, rfl, ⟨rfl, N⟩, hq⟩ := own_rm0 l s _ hw tables_1 i0 i1 i2 i3 i4 s.heap s.heap.size (Nat.le_refl _) (by first | exact own_x_c305_c4_nn20 i0 i1 i2 i3 i4 | exact own_x_c305_c4_nn20 i0 i1) (by first | exact own_x_c305_c4_nn29 i0 i1 i2 i3 i4 | exact own_x_c305_c4_nn29 i0 i1 i2 i3 i4) (by first | exact own_x_c305_c4_nn30 i0 i1 i2 i3 i4 | exact own_x_c305_c4_nn30 i0 i1 i2 i3 i4) (by first | exact own_x_c305_c4_nn44 i0 i1 i2 i3 i4 | exact own_x_c305_c4_nn44 i0 i1) (by first | exact own_x_c305_c4_nn52 i0 i1 i2 i3 i4 | exact own_x_c305_c4_nn52 i0 i1 i2 i3 i4) (by first | exact own_x_c305_c4_nn53 i0 i1 i2 i3 i4 | exact own_x_c305_c4_nn53 i0 i1 i2 i3 i4) (by first | exact own_x_c305_c4_nn54 i0 i1 i2 i3 i4 | exact own_x_c305_c4_nn54 i0 i1 i2 i3 i4) (by first | exact own_x_c305_c13_nn20 i0 i1 i2 i3 i4 | exact own_x_c305_c13_nn20 i1 i2) (by first | exact own_x_c305_c13_nn29 i0 i1 i2 i3 i4 | exact own_x_c305_c13_nn29 i0 i1 i2 i3 i4) (by first | exact own_x_c305_c13_nn30 i0 i1 i2 i3 i4 | exact own_x_c305_c13_nn30 i0 i1 i2 i3 i4) (by first | exact own_x_c305_c13_nn44 i0 i1 i2 i3 i4 | exact own_x_c305_c13_nn44 i1 i2) (by first | exact own_x_c305_c13_nn52 i0 i1 i2 i3 i4 | exact own_x_c305_c13_nn52 i0 i1 i2 i3 i4) (by first | exact own_x_c305_c13_nn53 i0 i1 i2 i3 i4 | exact own_x_c305_c13_nn53 i0 i1 i2 i3 i4) (by first | exact own_x_c305_c13_nn54 i0 i1 i2 i3 i4 | exact own_x_c305_c13_nn54 i0 i1 i2 i3 i4) (by first | exact own_x_c305_c22_nn20 i0 i1 i2 i3 i4 | exact own_x_c305_c22_nn20 i0 i2) (by first | exact own_x_c305_c22_nn29 i0 i1 i2 i3 i4 | exact own_x_c305_c22_nn29 i0 i1 i2 i3 i4) (by first | exact own_x_c305_c22_nn30 i0 i1 i2 i3 i4 | exact own_x_c305_c22_nn30 i0 i1 i2 i3 i4) (by first | exact own_x_c305_c22_nn44 i0 i1 i2 i3 i4 | exact own_x_c305_c22_nn44 i0 i2) (by first | exact own_x_c305_c22_nn52 i0 i1 i2 i3 i4 | exact own_x_c305_c22_nn52 i0 i1 i2 i3 i4) (by first | exact own_x_c305_c22_nn53 i0 i1 i2 i3 i4 | exact own_x_c305_c22_nn53 i0 i1 i2 i3 i4) (by first | exact own_x_c305_c22_nn54 i0 i1 i2 i3 i4 | exact own_x_c305_c22_nn54 i0 i1 i2 i3 i4) (by first | exact own_x_hc310 i0 i1 i2 i3 i4 | exact own_x_hc310 i0 i1 i2 i3 i4) p e ha hc hk s m _ below hf ((Spec.applies_iff_loose hf).mp happ).1 ⟨rfl, State.Warmed39.refl s, rfl⟩ trivial
  refine ⟨n, _, h1, h2, h3, hpost _ _ _ _ _ _ ⟨Cond.after_iff.mpr rfl, Cond.after_iff.mpr (eq_i res_at (Term.int_eval (1)) rfl), trivial⟩ ⟨hq.1, hq.2.1, (hq.2.2.sift fun y hy => Or.inr (N y hy)).mono (by decide) (by decide)⟩⟩
theorem main_1_1 : Claimed_1_1 := comes_1 fun _ _ _ _ _ _ h hF => ⟨h.1, hF⟩
theorem main_1_2 : Claimed_1_2 := comes_1 fun _ _ _ _ _ _ h hF => ⟨h.2.1, hF⟩
end Jvm.Pilot.@@N@@
namespace Jvm.Pilot.@@N@@
open Jvm Jvm.ClassFile Sem Op Lib Jvm.Free Jvm.Stand Jvm.Pilot.@@N@@.Jvm.D
/-! MADE BY PROGRAM (witnessworld.py) out of the Statement's table words and the real class files: 12 classes; the members and pool entries that the words name. The judged class is class 1, her method 3. -/
namespace start1
open Jvm.ClassFile
def u (s : String) : CpInfo := .utf8 (stringToUtf16 s)
/-- a pool by its gaps: so many unusable entries, then the entry; so many at the end -/
def gap : Nat → List CpInfo → List CpInfo
  | 0, r => r
  | n + 1, r => .unusable :: gap n r
def poolList (es : List (Nat × CpInfo)) (last : Nat) : List CpInfo := es.foldr (fun e r => gap e.1 (e.2 :: r)) (gap last [])
def pool (es : List (Nat × CpInfo)) (last : Nat) : Array CpInfo := ⟨poolList es last⟩
def fileOf (pool : Array CpInfo) (this : Nat) (attrs : Array Attribute := #[]) (ms : Array MethodInfo := #[]) (fl : Nat := 33) (sup : Nat := 0) (ifs : Array Nat := #[]) (fds : Array FieldInfo := #[]) : ClassFile where
  minorVersion := 0
  majorVersion := 65
  constantPool := pool
  accessFlags := fl
  thisClass := this
  superClass := sup
  interfaces := ifs
  fields := fds
  methods := ms
  attributes := attrs
def plain (name : String) (sup : Option ClassId) : Class where
  name := name
  kind := .ordinary
  loader := none
  accessFlags := 33
  super := sup
  interfaces := #[]
  cf := none
  fields := #[]
  methods := #[]
  instanceTypes := #[]
  staticTypes := #[]
  resolved := #[]
  callSites := []
  init := .initialized
  statics := none
  mirror := none

def pool0 : Array CpInfo := pool [(5, u "<init>"), (0, u "()V"), (1, .class_ 10), (1, u "java/lang/Object")] 113

def k0c0 : Code := { maxStack := 0, maxLocals := 1, code := object_method_1_code, exceptionTable := #[], attributes := #[] }
def k0m0 : Method := { name := "<init>", desc := "()V", sig := { parameters := [], returnType := none }, accessFlags := 1, code := some k0c0 }
/-- java/lang/Object -/
def k0 : Class := { plain "java/lang/Object" none with
  accessFlags := 33
  interfaces := #[]
  cf := some (fileOf pool0 8 #[] #[{ accessFlags := 1, nameIndex := 5, descriptorIndex := 6, attributes := #[] }] 33 0 #[] #[])
  fields := #[]
  methods := #[k0m0]
  instanceTypes := #[]
  staticTypes := #[]
  resolved := Array.replicate 124 none
  statics := none }

def pool1 : Array CpInfo := pool [(2, .class_ 4), (1, u "java/lang/Object"), (0, u "<init>"), (0, u "()V"), (0, .methodref 8 9), (0, .class_ 10), (0, .nameAndType 11 12), (0, u "com/example/wideberth/wideberth/maximin/TriangleContainsPinLaw"), (0, u "c24"), (0, u "(I)I"), (0, .long 2), (1, .methodref 8 16), (0, .nameAndType 17 18), (0, u "cross"), (0, u "(JJJJJJ)J"), (0, .methodref 20 21), (0, .class_ 22), (0, .nameAndType 23 24), (0, u "java/lang/Math"), (0, u "abs"), (0, u "(J)J"), (0, .class_ 26), (0, u "com/example/wideberth/wideberth/maximin/Triangle"), (0, .methodref 25 28), (0, .nameAndType 5 29), (0, u "(DDDDDD)V"), (0, .methodref 25 31), (0, .nameAndType 32 33), (0, u "contains"), (0, u "(DD)Z"), (2, u "law"), (0, u "(JJJJI)Z")] 3

def k1m0 : Method := { name := "<init>", desc := "()V", sig := { parameters := [], returnType := none }, accessFlags := 1, code := none }
def k1c1 : Code := { maxStack := 2, maxLocals := 1, code := method_2_code, exceptionTable := #[], attributes := #[] }
def k1m1 : Method := { name := "c24", desc := "(I)I", sig := { parameters := [.int], returnType := some .int }, accessFlags := 10, code := some k1c1 }
def k1c2 : Code := { maxStack := 8, maxLocals := 12, code := method_3_code, exceptionTable := #[], attributes := #[] }
def k1m2 : Method := { name := "cross", desc := "(JJJJJJ)J", sig := { parameters := [.long, .long, .long, .long, .long, .long], returnType := some .long }, accessFlags := 10, code := some k1c2 }
def k1c3 : Code := { maxStack := 14, maxLocals := 36, code := code, exceptionTable := #[], attributes := #[] }
def k1m3 : Method := { name := "law", desc := "(JJJJI)Z", sig := { parameters := [.long, .long, .long, .long, .int], returnType := some .boolean }, accessFlags := 9, code := some k1c3 }
/-- com/example/wideberth/wideberth/maximin/TriangleContainsPinLaw -/
def k1 : Class := { plain "com/example/wideberth/wideberth/maximin/TriangleContainsPinLaw" (some 0) with
  accessFlags := 49
  interfaces := #[]
  cf := some (fileOf pool1 8 #[] #[{ accessFlags := 1, nameIndex := 5, descriptorIndex := 6, attributes := #[] }, { accessFlags := 10, nameIndex := 11, descriptorIndex := 12, attributes := #[] }, { accessFlags := 10, nameIndex := 17, descriptorIndex := 18, attributes := #[] }, { accessFlags := 9, nameIndex := 36, descriptorIndex := 37, attributes := #[] }] 49 2 #[] #[])
  fields := #[]
  methods := #[k1m0, k1m1, k1m2, k1m3]
  instanceTypes := #[]
  staticTypes := #[]
  resolved := Array.replicate 41 none
  statics := none }

def pool2 : Array CpInfo := pool [(1, .class_ 2), (0, u "java/lang/Math"), (1, .class_ 6), (1, u "java/lang/Object"), (0, u "<init>"), (0, u "()V"), (89, .class_ 100), (1, u "java/lang/Math$RandomNumberGeneratorHolder"), (23, u "abs"), (0, u "(J)J"), (46, u "negativeZeroFloatBits"), (0, u "J"), (2, u "negativeZeroDoubleBits"), (68, u "$assertionsDisabled"), (0, u "Z"), (91, u "twoToTheDoubleScaleDown"), (0, u "D"), (4, u "twoToTheDoubleScaleUp"), (9, u "E"), (3, u "PI"), (2, u "TAU"), (2, u "DEGREES_TO_RADIANS"), (0, u "RADIANS_TO_DEGREES")] 94

def k2m0 : Method := { name := "<init>", desc := "()V", sig := { parameters := [], returnType := none }, accessFlags := 2, code := none }
def k2c1 : Code := { maxStack := 4, maxLocals := 2, code := jdk_29_method_61_code, exceptionTable := #[], attributes := #[] }
def k2m1 : Method := { name := "abs", desc := "(J)J", sig := { parameters := [.long], returnType := some .long }, accessFlags := 9, code := some k2c1 }
/-- java/lang/Math -/
def k2 : Class := { plain "java/lang/Math" (some 0) with
  accessFlags := 49
  interfaces := #[]
  cf := some (fileOf pool2 1 #[.nestMembers #[98]] #[{ accessFlags := 2, nameIndex := 7, descriptorIndex := 8, attributes := #[] }, { accessFlags := 9, nameIndex := 124, descriptorIndex := 125, attributes := #[] }] 49 4 #[] #[{ accessFlags := 25, nameIndex := 354, descriptorIndex := 339, attributes := #[] }, { accessFlags := 25, nameIndex := 358, descriptorIndex := 339, attributes := #[] }, { accessFlags := 25, nameIndex := 361, descriptorIndex := 339, attributes := #[] }, { accessFlags := 26, nameIndex := 364, descriptorIndex := 339, attributes := #[] }, { accessFlags := 26, nameIndex := 365, descriptorIndex := 339, attributes := #[] }, { accessFlags := 26, nameIndex := 172, descriptorIndex := 173, attributes := #[] }, { accessFlags := 26, nameIndex := 176, descriptorIndex := 173, attributes := #[] }, { accessFlags := 8, nameIndex := 344, descriptorIndex := 339, attributes := #[] }, { accessFlags := 8, nameIndex := 338, descriptorIndex := 339, attributes := #[] }, { accessFlags := 4120, nameIndex := 245, descriptorIndex := 246, attributes := #[] }])
  fields := #[{ name := "E", type := .double, accessFlags := 25, slot := 0, constantValue := 0 }, { name := "PI", type := .double, accessFlags := 25, slot := 1, constantValue := 0 }, { name := "TAU", type := .double, accessFlags := 25, slot := 2, constantValue := 0 }, { name := "DEGREES_TO_RADIANS", type := .double, accessFlags := 26, slot := 3, constantValue := 0 }, { name := "RADIANS_TO_DEGREES", type := .double, accessFlags := 26, slot := 4, constantValue := 0 }, { name := "negativeZeroFloatBits", type := .long, accessFlags := 26, slot := 5, constantValue := 0 }, { name := "negativeZeroDoubleBits", type := .long, accessFlags := 26, slot := 6, constantValue := 0 }, { name := "twoToTheDoubleScaleUp", type := .double, accessFlags := 8, slot := 7, constantValue := 0 }, { name := "twoToTheDoubleScaleDown", type := .double, accessFlags := 8, slot := 8, constantValue := 0 }, { name := "$assertionsDisabled", type := .boolean, accessFlags := 4120, slot := 9, constantValue := 0 }]
  methods := #[k2m0, k2m1]
  instanceTypes := #[]
  staticTypes := #[.double, .double, .double, .double, .double, .long, .long, .double, .double, .boolean]
  resolved := Array.replicate 460 none
  statics := none }

def pool3 : Array CpInfo := pool [(1, .methodref 2 3), (0, .class_ 4), (0, .nameAndType 5 6), (0, u "java/lang/Object"), (0, u "<init>"), (0, u "()V"), (0, .fieldref 8 9), (0, .class_ 10), (0, .nameAndType 11 12), (0, u "com/example/wideberth/wideberth/maximin/Triangle"), (0, u "xs"), (0, u "[D"), (0, .fieldref 8 14), (0, .nameAndType 15 12), (0, u "ys"), (0, .methodref 8 17), (0, .nameAndType 18 19), (0, u "side"), (0, u "(IDD)D"), (2, u "contains"), (0, u "(DD)Z"), (24, u "(DDDDDD)V")] 12

def k3c0 : Code := { maxStack := 6, maxLocals := 13, code := prog_23_method_1_code, exceptionTable := #[], attributes := #[] }
def k3m0 : Method := { name := "<init>", desc := "(DDDDDD)V", sig := { parameters := [.double, .double, .double, .double, .double, .double], returnType := none }, accessFlags := 0, code := some k3c0 }
def k3c1 : Code := { maxStack := 6, maxLocals := 11, code := prog_23_method_4_code, exceptionTable := #[], attributes := #[] }
def k3m1 : Method := { name := "contains", desc := "(DD)Z", sig := { parameters := [.double, .double], returnType := some .boolean }, accessFlags := 0, code := some k3c1 }
def k3c2 : Code := { maxStack := 8, maxLocals := 7, code := prog_23_method_8_code, exceptionTable := #[], attributes := #[] }
def k3m2 : Method := { name := "side", desc := "(IDD)D", sig := { parameters := [.int, .double, .double], returnType := some .double }, accessFlags := 2, code := some k3c2 }
/-- com/example/wideberth/wideberth/maximin/Triangle -/
def k3 : Class := { plain "com/example/wideberth/wideberth/maximin/Triangle" (some 0) with
  accessFlags := 32
  interfaces := #[]
  cf := some (fileOf pool3 8 #[] #[{ accessFlags := 0, nameIndex := 5, descriptorIndex := 48, attributes := #[] }, { accessFlags := 0, nameIndex := 22, descriptorIndex := 23, attributes := #[] }, { accessFlags := 2, nameIndex := 18, descriptorIndex := 19, attributes := #[] }] 32 2 #[] #[{ accessFlags := 18, nameIndex := 11, descriptorIndex := 12, attributes := #[] }, { accessFlags := 18, nameIndex := 15, descriptorIndex := 12, attributes := #[] }])
  fields := #[{ name := "xs", type := (.array .double), accessFlags := 18, slot := 0, constantValue := 0 }, { name := "ys", type := (.array .double), accessFlags := 18, slot := 1, constantValue := 0 }]
  methods := #[k3m0, k3m1, k3m2]
  instanceTypes := #[(.array .double), (.array .double)]
  staticTypes := #[]
  resolved := Array.replicate 61 none
  statics := none }

def pool4 : Array CpInfo := pool [(1, u "java/lang/Cloneable"), (0, .class_ 1), (0, u "java/lang/Object"), (0, .class_ 3)] 3

/-- java/lang/Cloneable -/
def k4 : Class := { plain "java/lang/Cloneable" (some 0) with
  accessFlags := 1537
  interfaces := #[]
  cf := some (fileOf pool4 2 #[] #[] 1537 4 #[] #[])
  fields := #[]
  methods := #[]
  instanceTypes := #[]
  staticTypes := #[]
  resolved := Array.replicate 8 none
  statics := none }

def pool5 : Array CpInfo := pool [(1, u "java/io/Serializable"), (0, .class_ 1), (0, u "java/lang/Object"), (0, .class_ 3)] 3

/-- java/io/Serializable -/
def k5 : Class := { plain "java/io/Serializable" (some 0) with
  accessFlags := 1537
  interfaces := #[]
  cf := some (fileOf pool5 2 #[] #[] 1537 4 #[] #[])
  fields := #[]
  methods := #[]
  instanceTypes := #[]
  staticTypes := #[]
  resolved := Array.replicate 8 none
  statics := none }

/-- the primitive byte -/
def k6 : Class := { plain "byte" none with kind := .primitive 'B', accessFlags := 0x411 }
/-- [B -/
def k7 : Class := { plain "[B" (some 0) with kind := .array 6 .byte, interfaces := #[4, 5], accessFlags := 1041 }

/-- the primitive double -/
def k8 : Class := { plain "double" none with kind := .primitive 'D', accessFlags := 0x411 }
/-- [D -/
def k9 : Class := { plain "[D" (some 0) with kind := .array 8 .double, interfaces := #[4, 5], accessFlags := 1041 }

/-- the primitive int -/
def k10 : Class := { plain "int" none with kind := .primitive 'I', accessFlags := 0x411 }
/-- [I -/
def k11 : Class := { plain "[I" (some 0) with kind := .array 10 .int, interfaces := #[4, 5], accessFlags := 1041 }

def heap : Heap := #[]
def classes : Array Class := #[k0, k1, k2, k3, k4, k5, k6, k7, k8, k9, k10, k11]
def interned : List (Array UInt16 × Addr) := []
def slotsUsed : Nat := 0
def theMethod : MethodId := ⟨1, 3⟩
def args0 : Array Value := #[.long 5, .long 6, .long 3, .long 1, .int 9]
def aboutOver (below : List Frame) : State where
  vm := { classes := classes, interned := interned.toArray }
  heap := heap
  slotsUsed := slotsUsed
  threads := #[{ frames := .invoking theMethod args0 :: below }]
def below0 : List Frame := [.native { method := ⟨0, 0⟩, args := #[] }]
def about1 : State := aboutOver below0
def p0 : Program := .bare "" "" ""
def e0 : Env := launch0.env 0 0 0
theorem w_frames : about1.frames = Frame.invoking theMethod args0 :: below0 := rfl
set_option maxRecDepth 65536 in
theorem w_args : argsFit about1.vm theMethod args0 = true := by decide +kernel
set_option maxRecDepth 65536 in
theorem w_heap : heapFits about1 = true := by decide +kernel
set_option maxRecDepth 65536 in
theorem w_runnable : about1.curStatus? = some .runnable := by decide +kernel
set_option maxRecDepth 65536 in
theorem w_alone : about1.alone = true := by decide +kernel
set_option maxRecDepth 65536 in
theorem w_named : about1.methodNamed? x = some theMethod := by decide +kernel
set_option maxRecDepth 65536 in
theorem w_hears : about1.hears theMethod below0 = true := by decide +kernel
set_option maxRecDepth 65536 in
theorem w_ripe : about1.ripe theMethod args0 below0 = true := by decide +kernel
theorem w_running : about1.status = .running := rfl
set_option maxRecDepth 65536 in
theorem w_room : about1.hasRoom e0.platform room_1 = true :=
  launch0.hasRoom_least _ room_1 (by decide +kernel) (by decide +kernel) (by decide +kernel) (by decide +kernel) (by decide +kernel) (by decide +kernel)
theorem allAtoms_all (ts : List Jvm.Cond) (a : Array Jvm.Value) (st : Jvm.State) : (allAtoms ts).before a st = ts.all (fun c => c.before a st) := by
  induction ts with
  | nil => rfl
  | cons c t ih =>
    show (Jvm.Cond.and c (allAtoms t)).before a st = _
    rw [Jvm.Cond.before_and, ih, List.all_cons]
def words1 : List Jvm.Cond := Jvm.Cond.code x code maxLocals ret :: tables_1
/-- a 'code' word, met by the world's own term for the bytes: nothing is compared byte by byte -/
theorem code_word {y : MethodName} {bytes : ByteArray} {mx : Nat} {rt : Option FieldType} {a : Array Value} {s : State} {m : MethodId} {meth : Method} {c : Code} (h1 : s.methodNamed? y = some m) (h2 : s.vm.method? m = some meth) (h3 : meth.code = some c) (h4 : c.code = bytes)
    (h5 : (c.maxLocals == mx && c.exceptionTable.isEmpty && decide (c.maxStack ≤ mostOperands) && decide (meth.sig.returnType = rt) && !meth.locks && decide (parseMethodDescriptor y.desc = some meth.sig)) = true) : (Jvm.Cond.code y bytes mx rt).before a s = true := by
  simp only [Bool.and_eq_true, beq_iff_eq, Bool.not_eq_true', decide_eq_true_eq] at h5
  obtain ⟨⟨⟨⟨⟨g1, g2⟩, g3⟩, g4⟩, g5⟩, g6⟩ := h5
  simp [Cond.before, Cond.holds, Cond.value, h1, h2, h3, h4, g1, g2, g3, g4, g5, g6]
def isCode : Jvm.Cond → Bool
  | .code _ _ _ _ => true
  | _ => false
theorem all_split {L : List Jvm.Cond} {P : Jvm.Cond → Bool} (h1 : L.all (fun c => isCode c || P c) = true) (h2 : ∀ c ∈ L.filter isCode, P c = true) : L.all P = true := by
  refine List.all_eq_true.mpr fun c hc => ?_
  have h := List.all_eq_true.mp h1 c hc
  rcases Bool.eq_false_or_eq_true (isCode c) with hi | hi
  · exact h2 c (List.mem_filter.mpr ⟨hc, hi⟩)
  · simpa [hi] using h
set_option maxRecDepth 65536 in
theorem w_c0 : (Jvm.Cond.code x code maxLocals ret).before args0 about1 = true := code_word (m := ⟨1, 3⟩) (meth := k1m3) (c := k1c3) (by decide +kernel) rfl rfl rfl (by decide +kernel)
set_option maxRecDepth 65536 in
theorem w_c1 : (Jvm.Cond.code ({ cls := "com/example/wideberth/wideberth/maximin/TriangleContainsPinLaw", name := "c24", desc := "(I)I" } : Jvm.MethodName) method_2_code (1 : Nat) (Option.some Jvm.ClassFile.FieldType.int)).before args0 about1 = true := code_word (m := ⟨1, 1⟩) (meth := k1m1) (c := k1c1) (by decide +kernel) rfl rfl rfl (by decide +kernel)
set_option maxRecDepth 65536 in
theorem w_c2 : (Jvm.Cond.code ({ cls := "com/example/wideberth/wideberth/maximin/TriangleContainsPinLaw", name := "cross", desc := "(JJJJJJ)J" } : Jvm.MethodName) method_3_code (12 : Nat) (Option.some Jvm.ClassFile.FieldType.long)).before args0 about1 = true := code_word (m := ⟨1, 2⟩) (meth := k1m2) (c := k1c2) (by decide +kernel) rfl rfl rfl (by decide +kernel)
set_option maxRecDepth 65536 in
theorem w_c3 : (Jvm.Cond.code ({ cls := "java/lang/Math", name := "abs", desc := "(J)J" } : Jvm.MethodName) jdk_29_method_61_code (2 : Nat) (Option.some Jvm.ClassFile.FieldType.long)).before args0 about1 = true := code_word (m := ⟨2, 1⟩) (meth := k2m1) (c := k2c1) (by decide +kernel) rfl rfl rfl (by decide +kernel)
set_option maxRecDepth 65536 in
theorem w_c4 : (Jvm.Cond.code ({ cls := "com/example/wideberth/wideberth/maximin/Triangle", name := "<init>", desc := "(DDDDDD)V" } : Jvm.MethodName) prog_23_method_1_code (13 : Nat) (Option.none : Option Jvm.ClassFile.FieldType)).before args0 about1 = true := code_word (m := ⟨3, 0⟩) (meth := k3m0) (c := k3c0) (by decide +kernel) rfl rfl rfl (by decide +kernel)
set_option maxRecDepth 65536 in
theorem w_c5 : (Jvm.Cond.code ({ cls := "java/lang/Object", name := "<init>", desc := "()V" } : Jvm.MethodName) object_method_1_code (1 : Nat) (Option.none : Option Jvm.ClassFile.FieldType)).before args0 about1 = true := code_word (m := ⟨0, 0⟩) (meth := k0m0) (c := k0c0) (by decide +kernel) rfl rfl rfl (by decide +kernel)
set_option maxRecDepth 65536 in
theorem w_c6 : (Jvm.Cond.code ({ cls := "com/example/wideberth/wideberth/maximin/Triangle", name := "contains", desc := "(DD)Z" } : Jvm.MethodName) prog_23_method_4_code (11 : Nat) (Option.some Jvm.ClassFile.FieldType.boolean)).before args0 about1 = true := code_word (m := ⟨3, 1⟩) (meth := k3m1) (c := k3c1) (by decide +kernel) rfl rfl rfl (by decide +kernel)
set_option maxRecDepth 65536 in
theorem w_c7 : (Jvm.Cond.code ({ cls := "com/example/wideberth/wideberth/maximin/Triangle", name := "side", desc := "(IDD)D" } : Jvm.MethodName) prog_23_method_8_code (7 : Nat) (Option.some Jvm.ClassFile.FieldType.double)).before args0 about1 = true := code_word (m := ⟨3, 2⟩) (meth := k3m2) (c := k3c2) (by decide +kernel) rfl rfl rfl (by decide +kernel)
def codes1 : List Jvm.Cond := [Jvm.Cond.code x code maxLocals ret, Jvm.Cond.code ({ cls := "com/example/wideberth/wideberth/maximin/TriangleContainsPinLaw", name := "c24", desc := "(I)I" } : Jvm.MethodName) method_2_code (1 : Nat) (Option.some Jvm.ClassFile.FieldType.int), Jvm.Cond.code ({ cls := "com/example/wideberth/wideberth/maximin/TriangleContainsPinLaw", name := "cross", desc := "(JJJJJJ)J" } : Jvm.MethodName) method_3_code (12 : Nat) (Option.some Jvm.ClassFile.FieldType.long), Jvm.Cond.code ({ cls := "java/lang/Math", name := "abs", desc := "(J)J" } : Jvm.MethodName) jdk_29_method_61_code (2 : Nat) (Option.some Jvm.ClassFile.FieldType.long), Jvm.Cond.code ({ cls := "com/example/wideberth/wideberth/maximin/Triangle", name := "<init>", desc := "(DDDDDD)V" } : Jvm.MethodName) prog_23_method_1_code (13 : Nat) (Option.none : Option Jvm.ClassFile.FieldType), Jvm.Cond.code ({ cls := "java/lang/Object", name := "<init>", desc := "()V" } : Jvm.MethodName) object_method_1_code (1 : Nat) (Option.none : Option Jvm.ClassFile.FieldType), Jvm.Cond.code ({ cls := "com/example/wideberth/wideberth/maximin/Triangle", name := "contains", desc := "(DD)Z" } : Jvm.MethodName) prog_23_method_4_code (11 : Nat) (Option.some Jvm.ClassFile.FieldType.boolean), Jvm.Cond.code ({ cls := "com/example/wideberth/wideberth/maximin/Triangle", name := "side", desc := "(IDD)D" } : Jvm.MethodName) prog_23_method_8_code (7 : Nat) (Option.some Jvm.ClassFile.FieldType.double)]
set_option maxRecDepth 65536 in
theorem codes_eq : words1.filter isCode = codes1 := rfl
theorem w_codes : ∀ c ∈ words1.filter isCode, c.before args0 about1 = true := by
  rw [codes_eq]
  intro c hc
  simp only [codes1, List.mem_cons, List.not_mem_nil, or_false] at hc
  rcases hc with rfl | rfl | rfl | rfl | rfl | rfl | rfl | rfl
  · exact w_c0
  · exact w_c1
  · exact w_c2
  · exact w_c3
  · exact w_c4
  · exact w_c5
  · exact w_c6
  · exact w_c7
set_option maxRecDepth 65536 in
theorem w_t1 : (words1.take 24).all (fun c => isCode c || c.before args0 about1) = true := by decide +kernel
set_option maxRecDepth 65536 in
theorem w_t2 : (words1.drop 24).all (fun c => isCode c || c.before args0 about1) = true := by decide +kernel
theorem w_tables : (allAtoms (Jvm.Cond.code x code maxLocals ret :: tables_1)).before args0 about1 = true := by
  rw [allAtoms_all]
  show words1.all (fun c => c.before args0 about1) = true
  refine all_split ?_ w_codes
  rw [← List.take_append_drop 24 words1, List.all_append, w_t1, w_t2]
  rfl
set_option maxRecDepth 65536 in
theorem w_case : (Jvm.Cond.and given_1 narrow_1).before args0 about1 = true := by decide +kernel
theorem w_applies : (headSpec (Jvm.Cond.code x code maxLocals ret :: tables_1) room_1).applies x e0.platform about1 = true :=
  (Spec.applies_iff w_frames).mpr ⟨w_running, w_runnable, w_alone, w_named, w_hears, w_ripe, w_room, w_tables⟩
theorem atStart : AtStart classFile x code maxLocals ret World_1 tables_1 room_1 Calls_1 rest_1 Pre_1 launch0 p0 e0 about1 theMethod args0 below0 :=
  ⟨lists_1, trivial, launch0.admits_env _ _ _, launch0.least_env, fairChoices_fair.cas, fairChoices_fair.clock, w_frames, w_args, w_heap, w_applies, trivial, trivial, w_case⟩
end start1
theorem witness_1 : WitnessClaimed_1 := ⟨start1.p0, start1.e0, start1.about1, start1.theMethod, start1.args0, start1.below0, start1.atStart⟩
end Jvm.Pilot.@@N@@
