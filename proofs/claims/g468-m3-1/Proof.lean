import JvmDerived
import JvmDerived.Pilot.@@N@@Statement
import JvmDerived.Pilot.@@N@@Code
@@BLOCK:NumsL.lean.txt@@
set_option linter.unusedVariables false
set_option linter.unusedSimpArgs false
namespace Jvm.RoadKit
open Sem ClassFile Op Lib Jvm.Stand Jvm.Free Jvm.LawKit
section New
variable {p : Program} {l : Launch} {e : Env} {R : Room} {s : State} {m : MethodId} {args : Array Value} {below : List Frame} {meth : Method} {c : Code} {T : State} {locs : List Loc} {cells slots : Nat}
theorem retI (X : Stand p l e R s m args below meth c T locs cells slots) (hx : p.tables.exec = Jvm.exec) {pc : Nat} {Ls : Array Slot} {z : Int32} {rest : List Value} (hret : meth.sig.returnType = some .int) (hd : decode c.code pc = .ok (.ireturn, 1)) {fs : List Frame}
    (hl : ∀ (f : JFrame) (acts : List Action), f.method = m → f.locked = none → f.entered = [] → (doReturn e (T.setTop f) acts (some (.int z))).1 = T.setFrames fs) : Steps p.tables e below (T.setTop (mkF m pc Ls (.int z :: rest))) (T.setFrames fs) := by
  have hm' : T.vm.method? m = some meth := X.method'
  have hn : narrow .int (.int z) = .int z := rfl
  show Steps p.tables e below (T.setTop { method := m, pc := pc, locals := Ls, stack := _ :: rest, locked := none }) _
  jvm_step X.here [X.here.top, hx, hd, hm', hret, hn]
  first | (intro acts; rw [hl _ acts rfl rfl rfl]) | rw [hl _ _ rfl rfl rfl]
  exact Steps.refl _
theorem own_retD (X : Stand p l e R s m args below meth c T locs cells slots) (hx : p.tables.exec = Jvm.exec) {pc : Nat} {Ls : Array Slot} {z : UInt64} {rest : List Value} (hret : meth.sig.returnType = some .double) (hd : decode c.code pc = .ok (.dreturn, 1)) {fs : List Frame}
    (hl : ∀ (f : JFrame) (acts : List Action), f.method = m → f.locked = none → f.entered = [] → (doReturn e (T.setTop f) acts (some (.double z))).1 = T.setFrames fs) : Steps p.tables e below (T.setTop (mkF m pc Ls (.double z :: rest))) (T.setFrames fs) := by
  have hm' : T.vm.method? m = some meth := X.method'
  have hn : narrow .double (.double z) = .double z := rfl
  show Steps p.tables e below (T.setTop { method := m, pc := pc, locals := Ls, stack := _ :: rest, locked := none }) _
  jvm_step X.here [X.here.top, hx, hd, hm', hret, hn]
  first | (intro acts; rw [hl _ acts rfl rfl rfl]) | rw [hl _ _ rfl rfl rfl]
  exact Steps.refl _
theorem own_mvM {Z s : State} {a0 args : Array Value} {own host : String} {y : MethodName} {index : Nat} (hZ : Z.Warmed39 s.vm) (w : (Cond.methodLinkNest own index y host).before a0 Z = true) : (Cond.methodLinkNest own index y host).before args s = true := (Cond.methodLinkNest_wide hZ w :)
theorem own_selP {Z s : State} {a0 args : Array Value} {y : MethodName} {n : Nat} (hZ : Z.Warmed39 s.vm) (wi : (Cond.instantiable y.cls n).before a0 Z = true) (wp : (Cond.privateMethod y).before a0 Z = true) (wm : (Cond.instanceMethod y).before a0 Z = true) (hy : y.cls ≠ "java/lang/invoke/MethodHandle" ∧ y.cls ≠ "java/lang/invoke/VarHandle") : (Cond.selects y.cls y y).before args s = true := by
  obtain ⟨c, k, hc, hk, -, hflags, -⟩ := Cond.instantiable_spec (mvT (args := args) hZ wi)
  have hitf : k.isInterface = false := by
    cases hi : k.isInterface
    · rfl
    · simp [hi] at hflags
  exact selects_self_of_private hc hk hitf (Cond.privateMethod_at (mvP hZ wp (args := args))) (mvT hZ wm) hy
end New
end Jvm.RoadKit
namespace Jvm.Pilot.@@N@@
open Jvm Jvm.ClassFile Sem Op Lib Jvm.Free Jvm.Stand Jvm.LawKit Jvm.RoadKit Bundle Jvm.Free.Fl Jvm.Pilot.@@N@@.Jvm.D
/-! my own laws on doubles: a result is a rounding of its exact value (monotone), exactness, the order -/
section OwnFloat
open Jvm.FP Jvm.FP.Core
/-- the value in units of 2^-1074 -/
def own_zv (a : UInt64) : Int := Core.zval Core.b64 (Core.val64 a)
abbrev own_U : Int := (Core.one64 : Int)
theorem own_U_pos : 0 < own_U := Int.natCast_pos.mpr Core.one64_pos
/-- r is N / D, rounded, as far as the order goes -/
def own_rnd (N D : Int) (r : UInt64) : Prop :=
  Core.val64 r ≠ .nan ∧ (∀ V, Core.val64 V ≠ .nan → own_zv V * D ≤ N → own_zv V ≤ own_zv r) ∧ (∀ V, Core.val64 V ≠ .nan → N ≤ own_zv V * D → own_zv r ≤ own_zv V)
theorem own_fin_ne {a : UInt64} (h : Core.DFin a) : Core.val64 a ≠ .nan := h.ne_nan
theorem own_pow0 : (2 : Nat) ^ (Core.b64.qmin - Core.b64.qmin).toNat = 1 := by rw [Int.sub_self]; rfl
theorem own_rnd_of_round {x : UInt64} {sg : Bool} {n : Nat} {e e0 : Int} (hx : Core.val64 x = Core.round Core.b64 (.fin sg n e)) (h0 : e0 ≤ Core.b64.qmin) (h0e : e0 ≤ e) :
    own_rnd (Core.signed sg (Core.inUnits n e e0)) (((2 ^ (Core.b64.qmin - e0).toNat : Nat) : Int)) x := by
  refine ⟨?_, fun V hV h => ?_, fun V hV h => ?_⟩
  · rw [hx]; intro q; have := Core.round_nan.mp q; cases this
  · have := Core.zval_round_ge Core.good_b64 (s := sg) (c := n) (q := e) (e0 := e0) (V := Core.val64 V) (Core.val64_fits V) hV h0 h0e h
    unfold own_zv; rw [hx]; exact this
  · have := Core.zval_round_le Core.good_b64 (s := sg) (c := n) (q := e) (e0 := e0) (V := Core.val64 V) (Core.val64_fits V) hV h0 h0e h
    unfold own_zv; rw [hx]; exact this
theorem own_dadd_rnd {a b : UInt64} (ha : Core.DFin a) (hb : Core.DFin b) : own_rnd (own_zv a + own_zv b) 1 (FP.dadd a b) := by
  obtain ⟨s, c, q, ea⟩ := ha
  obtain ⟨t, d, r, eb⟩ := hb
  have fa := Core.val64_fits a; have fb := Core.val64_fits b
  rw [ea] at fa; rw [eb] at fb
  obtain ⟨sg, n, e, h1, h2, h3⟩ := Core.sum_units fa fb
  have hv : Core.val64 (FP.dadd a b) = Core.round Core.b64 (.fin sg n e) := by
    show Core.val64 (Core.dadd a b) = _
    rw [Core.val64_dadd, ea, eb, h1]
  have := own_rnd_of_round hv (Int.le_refl _) h2
  rw [h3, own_pow0] at this
  unfold own_zv; rw [ea, eb]; exact this
theorem own_zv_dneg (a : UInt64) : own_zv (Core.dneg a) = -own_zv a := by
  unfold own_zv; rw [Core.val64_dneg, Core.zval_negate]
theorem own_fin_dneg {a : UInt64} (ha : Core.DFin a) : Core.DFin (Core.dneg a) := by
  obtain ⟨s, c, q, ea⟩ := ha
  exact ⟨!s, c, q, by rw [Core.val64_dneg, ea]; rfl⟩
theorem own_dneg_zv {a : UInt64} (ha : Core.DFin a) : Core.DFin (FP.dneg a) ∧ own_zv (FP.dneg a) = -own_zv a := by
  rw [FP.dneg_core ha.notNaN]; exact ⟨own_fin_dneg ha, own_zv_dneg a⟩
theorem own_dsub_rnd {a b : UInt64} (ha : Core.DFin a) (hb : Core.DFin b) : own_rnd (own_zv a - own_zv b) 1 (FP.dsub a b) := by
  have h := own_dadd_rnd ha (own_fin_dneg hb)
  rw [own_zv_dneg] at h
  have e : FP.dsub a b = FP.dadd a (Core.dneg b) := Core.dsub_eq a b
  rw [e, Int.sub_eq_add_neg]; exact h
theorem own_dmul_rnd {a b : UInt64} (ha : Core.DFin a) (hb : Core.DFin b) : own_rnd (own_zv a * own_zv b) own_U (FP.dmul a b) := by
  obtain ⟨s, c, q, ea⟩ := ha
  obtain ⟨t, d, r, eb⟩ := hb
  have fa := Core.val64_fits a; have fb := Core.val64_fits b
  rw [ea] at fa; rw [eb] at fb
  obtain ⟨h1, h2, h3⟩ := Core.product_units fa fb
  have hv : Core.val64 (FP.dmul a b) = Core.round Core.b64 (.fin (s != t) (c * d) (q + r)) := by
    show Core.val64 (Core.dmul a b) = _
    rw [Core.val64_dmul, ea, eb, h1]
  have hq := Core.qmin_neg Core.good_b64
  have := own_rnd_of_round (e0 := 2 * Core.b64.qmin) hv (by omega) h2
  rw [h3, Core.signed_xor, show Core.b64.qmin - 2 * Core.b64.qmin = -Core.b64.qmin by omega, Core.pow_qmin64] at this
  unfold own_zv; rw [ea, eb]; exact this
theorem own_ddiv_rnd {a b : UInt64} (ha : Core.DFin a) (hb : Core.DFin b) (hz : own_zv b ≠ 0) : own_rnd (if 0 < own_zv b then own_zv a * own_U else -(own_zv a * own_U)) (own_zv b).natAbs (FP.ddiv a b) := by
  obtain ⟨s, c, q, ea⟩ := ha
  obtain ⟨t, d, r, eb⟩ := hb
  have fa := Core.val64_fits a; have fb := Core.val64_fits b
  rw [ea] at fa; rw [eb] at fb
  have hq1 := fa.2.1; have hq2 := fb.2.1
  have hqm := Core.qmin_neg Core.good_b64
  have zb : own_zv b = Core.signed t (Core.inUnits d r Core.b64.qmin) := by unfold own_zv; rw [eb]; rfl
  have za : own_zv a = Core.signed s (Core.inUnits c q Core.b64.qmin) := by unfold own_zv; rw [ea]; rfl
  have d0 : d ≠ 0 := fun h => hz (by rw [zb, h]; unfold Core.inUnits; rw [Nat.zero_mul]; exact Core.signed_zero t)
  have hB : 0 < Core.inUnits d r Core.b64.qmin := Nat.mul_pos (Nat.pos_of_ne_zero d0) (Nat.two_pow_pos _)
  have hv : Core.val64 (FP.ddiv a b) = Core.roundRatio Core.b64 (s != t) c d (q - r) := by
    show Core.val64 (Core.ddiv a b) = _
    rw [Core.val64_ddiv, ea, eb]; show (if d = 0 then _ else _) = _; rw [if_neg d0]
  have e1 : Core.inUnits c (q - r) (Core.b64.qmin - (r - Core.b64.qmin)) = Core.inUnits c q Core.b64.qmin * Core.one64 := by
    unfold Core.inUnits
    rw [← Core.pow_qmin64, Nat.mul_assoc, ← Nat.pow_add, show (q - r - (Core.b64.qmin - (r - Core.b64.qmin))).toNat = (q - Core.b64.qmin).toNat + (-Core.b64.qmin).toNat by omega]
  have e2 : ∀ v : Nat, v * 2 ^ (Core.b64.qmin - (Core.b64.qmin - (r - Core.b64.qmin))).toNat * d = v * Core.inUnits d r Core.b64.qmin := fun v => by
    unfold Core.inUnits
    rw [show Core.b64.qmin - (Core.b64.qmin - (r - Core.b64.qmin)) = r - Core.b64.qmin by omega, Nat.mul_assoc, Nat.mul_comm (2 ^ _) d]
  have hle : ∀ V : Core.Datum, Core.fits Core.b64 V → V ≠ .nan → Core.inUnits c q Core.b64.qmin * Core.one64 ≤ Core.zmag Core.b64 V * Core.inUnits d r Core.b64.qmin → Core.zmag Core.b64 (Core.roundRatio Core.b64 (s != t) c d (q - r)) ≤ Core.zmag Core.b64 V := fun V hV hn h =>
    Core.zmag_roundRatio_le Core.good_b64 (e0 := Core.b64.qmin - (r - Core.b64.qmin)) (Nat.pos_of_ne_zero d0) hV hn (by omega) (by omega) (by rw [e1, e2]; exact h)
  have hge : ∀ V : Core.Datum, Core.fits Core.b64 V → V ≠ .nan → Core.zmag Core.b64 V * Core.inUnits d r Core.b64.qmin ≤ Core.inUnits c q Core.b64.qmin * Core.one64 → Core.zmag Core.b64 V ≤ Core.zmag Core.b64 (Core.roundRatio Core.b64 (s != t) c d (q - r)) := fun V hV hn h =>
    Core.zmag_roundRatio_ge Core.good_b64 (e0 := Core.b64.qmin - (r - Core.b64.qmin)) (Nat.pos_of_ne_zero d0) hV (by omega) (by omega) (by rw [e1, e2]; exact h)
  have zr : own_zv (FP.ddiv a b) = Core.signed (s != t) (Core.zmag Core.b64 (Core.roundRatio Core.b64 (s != t) c d (q - r))) := by
    unfold own_zv; rw [hv]; unfold Core.zval; rw [Core.sgn_roundRatio]
  have hN : (if 0 < own_zv b then own_zv a * own_U else -(own_zv a * own_U)) = Core.signed (s != t) (Core.inUnits c q Core.b64.qmin * Core.one64) := by
    rw [zb, za, ← Core.signed_mul]
    cases s <;> cases t <;> simp only [Core.signed, if_true, if_false, Bool.false_eq_true, bne_self_eq_false, Bool.true_bne, Bool.false_bne, Bool.not_false, Bool.not_true] <;> split <;> omega
  have hD : ((own_zv b).natAbs : Int) = (Core.inUnits d r Core.b64.qmin : Nat) := by rw [zb, Core.natAbs_signed]
  have hzz : ∀ v : Nat, v * Core.inUnits d r Core.b64.qmin = 0 → v = 0 := fun v h => by rcases Nat.mul_eq_zero.mp h with h | h <;> omega
  rw [hN, hD]
  refine ⟨by rw [hv]; exact Core.roundRatio_ne_nan _ _ _ _ _, fun V hV h => ?_, fun V hV h => ?_⟩
  all_goals
    have h1 := hle _ (Core.val64_fits V) hV; have h2 := hge _ (Core.val64_fits V) hV; have h3 := hzz (Core.zmag Core.b64 (Core.val64 V))
    rw [zr]
    rw [show own_zv V = Core.signed (Core.sgn (Core.val64 V)) (Core.zmag Core.b64 (Core.val64 V)) from rfl] at h ⊢
    rw [← Core.signed_mul] at h
    generalize Core.zmag Core.b64 (Core.val64 V) * Core.inUnits d r Core.b64.qmin = vP at *
    generalize Core.inUnits c q Core.b64.qmin * Core.one64 = A at *
    generalize Core.sgn (Core.val64 V) = tV at *
    generalize (s != t) = st at *
    cases st <;> cases tV <;> simp only [Core.signed, if_true, Bool.false_eq_true, if_false] at h ⊢
    all_goals first
      | omega
      | (have := h1 (by omega); omega)
      | (have := h2 (by omega); omega)
      | (have := h1 (by omega); have := h3 (by omega); omega)
      | (have := h2 (by omega); have := h3 (by omega); omega)
/-- numbers of 53 digits are doubles -/
theorem own_rep (c : Int) (j : Nat) (hc : c.natAbs < 2 ^ 53) (hj : j ≤ 2045) : ∃ V, Core.DFin V ∧ own_zv V = c * ((2 ^ j : Nat) : Int) := by
  have hq1 : Core.b64.qmin = -1074 := Core.qmin_b64
  have hq2 : Core.b64.qmax = 971 := by decide
  obtain ⟨c', q', h1, h2⟩ := Core.round_exact Core.good_b64 (decide (c < 0)) (c := c.natAbs) (q := Core.b64.qmin + j) hc (by omega) (by omega)
  have hv : Core.val64 (Core.of64 (Core.round Core.b64 (.fin (decide (c < 0)) c.natAbs (Core.b64.qmin + j)))) = .fin (decide (c < 0)) c' q' := by
    rw [Core.val64_of64 (Core.round_fits Core.good_b64 _), h1]
  refine ⟨_, ⟨_, _, _, hv⟩, ?_⟩
  unfold own_zv; rw [hv]
  show Core.signed (decide (c < 0)) (Core.inUnits c' q' Core.b64.qmin) = _
  rw [h2]; unfold Core.inUnits
  rw [Core.signed_mul, show (Core.b64.qmin + (j : Int) - Core.b64.qmin).toNat = j by omega]
  congr 1
  by_cases h : c < 0
  · simp only [Core.signed, h, decide_true, if_true]; omega
  · simp only [Core.signed, h, decide_false, Bool.false_eq_true, if_false]; omega
theorem own_zv_lt {a : UInt64} (h : Core.DFin a) : (own_zv a).natAbs < Core.b64.tails * 2 ^ (Core.b64.exps - 2) := by
  have := Core.DFin.zval_lt h
  unfold own_zv Core.zval; rw [Core.natAbs_signed]; exact this
theorem own_fin_of {r V : UInt64} (hr : Core.val64 r ≠ .nan) (hV : Core.DFin V) (h : (own_zv r).natAbs ≤ (own_zv V).natAbs) : Core.DFin r := by
  cases e : Core.val64 r with
  | nan => exact absurd e hr
  | inf s =>
    have h1 := own_zv_lt hV
    have h2 : (own_zv r).natAbs = Core.b64.tails * 2 ^ (Core.b64.exps - 2) := by unfold own_zv Core.zval; rw [Core.natAbs_signed, e]; rfl
    omega
  | fin s c q => exact ⟨s, c, q, e⟩
/-- what is representable is not rounded -/
theorem own_exactV {N D : Int} {r V : UInt64} (h : own_rnd N D r) (hV : Core.DFin V) (e : own_zv V * D = N) : Core.DFin r ∧ own_zv r = own_zv V := by
  have h1 := h.2.1 V hV.ne_nan (by omega)
  have h2 := h.2.2 V hV.ne_nan (by omega)
  have h3 : own_zv r = own_zv V := by omega
  exact ⟨own_fin_of h.1 hV (by rw [h3]; exact Nat.le_refl _), h3⟩
theorem own_exact {N D : Int} {r : UInt64} (h : own_rnd N D r) (c : Int) (j : Nat) (hc : c.natAbs < 2 ^ 53) (hj : j ≤ 2045) (e : c * ((2 ^ j : Nat) : Int) * D = N) : Core.DFin r ∧ own_zv r = c * ((2 ^ j : Nat) : Int) := by
  obtain ⟨V, f, z⟩ := own_rep c j hc hj
  rw [← z] at e ⊢
  exact own_exactV h f e
/-! the order -/
theorem own_dcmp {a b : UInt64} (ha : Core.val64 a ≠ .nan) (hb : Core.val64 b ≠ .nan) : FP.dcmp a b = some (compare (own_zv a) (own_zv b)) := Core.dcmp_zval ha hb
theorem own_cmpv {a b : UInt64} (ha : Core.val64 a ≠ .nan) (hb : Core.val64 b ≠ .nan) (o : CmpOp) : cmpValue (FP.dcmp a b) o = if own_zv a < own_zv b then -1 else if own_zv a = own_zv b then 0 else 1 := by
  rw [own_dcmp ha hb, Core.compare_ite]
  by_cases h1 : own_zv a < own_zv b
  · simp only [h1, if_true]; cases o <;> rfl
  · by_cases h2 : own_zv a = own_zv b
    · simp only [h2, Int.lt_irrefl, if_true, if_false]; cases o <;> rfl
    · simp only [h1, h2, if_false]; cases o <;> rfl
theorem own_cmp_le {a b : UInt64} (ha : Core.val64 a ≠ .nan) (hb : Core.val64 b ≠ .nan) (h : own_zv a ≤ own_zv b) (o : CmpOp) : ¬ ((0 : Int32) < cmpValue (FP.dcmp a b) o) := by
  rw [own_cmpv ha hb]
  by_cases h1 : own_zv a < own_zv b
  · rw [if_pos h1]; decide
  · rw [if_neg h1, if_pos (by omega)]; decide
theorem own_cmp_ge {a b : UInt64} (ha : Core.val64 a ≠ .nan) (hb : Core.val64 b ≠ .nan) (h : own_zv b ≤ own_zv a) (o : CmpOp) : ¬ (cmpValue (FP.dcmp a b) o < (0 : Int32)) := by
  rw [own_cmpv ha hb, if_neg (by omega)]
  by_cases h1 : own_zv a = own_zv b
  · rw [if_pos h1]; decide
  · rw [if_neg h1]; decide
theorem own_cmp_lt {a b : UInt64} (ha : Core.val64 a ≠ .nan) (hb : Core.val64 b ≠ .nan) (h : own_zv a < own_zv b) (o : CmpOp) : cmpValue (FP.dcmp a b) o < (0 : Int32) := by
  rw [own_cmpv ha hb, if_pos h]; decide
theorem own_cmp_gt {a b : UInt64} (ha : Core.val64 a ≠ .nan) (hb : Core.val64 b ≠ .nan) (h : own_zv b < own_zv a) (o : CmpOp) : (0 : Int32) < cmpValue (FP.dcmp a b) o := by
  rw [own_cmpv ha hb, if_neg (by omega), if_neg (by omega)]; decide
theorem own_cmp_eq {a b : UInt64} (ha : Core.val64 a ≠ .nan) (hb : Core.val64 b ≠ .nan) (h : own_zv a = own_zv b) (o : CmpOp) : cmpValue (FP.dcmp a b) o = (0 : Int32) := by
  rw [own_cmpv ha hb, if_neg (by omega), if_pos h]
theorem own_cmp_ne {a b : UInt64} (ha : Core.val64 a ≠ .nan) (hb : Core.val64 b ≠ .nan) (h : own_zv a ≠ own_zv b) (o : CmpOp) : ¬ (cmpValue (FP.dcmp a b) o = (0 : Int32)) := by
  rw [own_cmpv ha hb]
  by_cases h1 : own_zv a < own_zv b
  · rw [if_pos h1]; decide
  · rw [if_neg h1, if_neg h]; decide
/-! no NaN -/
theorem own_nn {a : UInt64} (h : Core.val64 a ≠ .nan) : NoNaN64 a := noNaN64_no.mpr ((Core.notNaN_iff a).mpr h)
theorem own_rnd_nn {N D : Int} {r : UInt64} (h : own_rnd N D r) : NoNaN64 r := own_nn h.1
theorem own_fin_nn {a : UInt64} (h : Core.DFin a) : NoNaN64 a := own_nn h.ne_nan
/-! whole numbers -/
theorem own_i2d (x : Int32) : Core.DFin (FP.i2d x) ∧ own_zv (FP.i2d x) = x.toInt * own_U := ⟨Core.i2d_fin x, Core.DInt_zval (Core.i2d_int x)⟩
theorem own_l2d {x : Int64} (h : x.toInt.natAbs ≤ 2 ^ 53) : Core.DFin (FP.l2d x) ∧ own_zv (FP.l2d x) = x.toInt * own_U := ⟨Core.l2d_fin x, Core.DInt_zval (Core.l2d_int h)⟩
theorem own_U_eq : own_U = ((2 ^ 1074 : Nat) : Int) := rfl
end OwnFloat
section OwnFloat2
open Jvm.FP Jvm.FP.Core
theorem own_lt_U {i j : Int} : i * own_U < j * own_U ↔ i < j := by
  have h := own_U_pos
  constructor
  · intro q; exact Int.lt_of_mul_lt_mul_right q (Int.le_of_lt h)
  · intro q; exact Int.mul_lt_mul_of_pos_right q h
theorem own_eq_U {i j : Int} : i * own_U = j * own_U ↔ i = j := by
  have h := own_U_pos
  constructor
  · intro q; exact Int.eq_of_mul_eq_mul_right (by omega) q
  · intro q; rw [q]
/-- a is the whole number i -/
def own_is (i : Int) (a : UInt64) : Prop := Core.DFin a ∧ own_zv a = i * own_U
theorem own_is_i2d (x : Int32) : own_is x.toInt (FP.i2d x) := own_i2d x
theorem own_is_neg0 : own_is 0 (9223372036854775808 : UInt64) := ⟨by rw [Core.fin_bits]; decide, by decide +kernel⟩
theorem own_is_0 : own_is 0 (0 : UInt64) := ⟨by rw [Core.fin_bits]; decide, by decide +kernel⟩
theorem own_cmpU {a b : UInt64} {i j : Int} (ha : own_is i a) (hb : own_is j b) (o : CmpOp) : cmpValue (FP.dcmp a b) o = if i < j then -1 else if i = j then 0 else 1 := by
  rw [own_cmpv ha.1.ne_nan hb.1.ne_nan, ha.2, hb.2]; simp only [own_lt_U, own_eq_U]
end OwnFloat2
section OwnFloat3
open Jvm.FP Jvm.FP.Core
theorem own_is_dneg {i : Int} {a : UInt64} (h : own_is i a) : own_is (-i) (FP.dneg a) := by
  obtain ⟨f, z⟩ := own_dneg_zv h.1
  exact ⟨f, by rw [z, h.2, Int.neg_mul]⟩
theorem own_self {a : UInt64} (h : Core.DFin a) (o : CmpOp) : cmpValue (FP.dcmp a a) o = (0 : Int32) := own_cmp_eq h.ne_nan h.ne_nan rfl o
/-- x - x is nought -/
theorem own_dsub_self {a : UInt64} (h : Core.DFin a) : FP.dsub a a = 0 := by
  obtain ⟨s, c, q, e⟩ := h
  exact Core.dsub_self e
end OwnFloat3
section OwnFloat4
open Jvm.FP Jvm.FP.Core
theorem own_rep_le (c : Int) (j : Nat) (hc : c.natAbs ≤ 2 ^ 53) (hj : j ≤ 2044) : ∃ V, Core.DFin V ∧ own_zv V = c * ((2 ^ j : Nat) : Int) := by
  by_cases h : c.natAbs < 2 ^ 53
  · exact own_rep c j h (by omega)
  · obtain ⟨V, f, z⟩ := own_rep (c / 2) (j + 1) (by omega) (by omega)
    refine ⟨V, f, ?_⟩
    rw [z, Nat.pow_succ, Int.natCast_mul]
    have : c = c / 2 * 2 := by omega
    rw [Int.mul_comm ((2 ^ j : Nat) : Int), ← Int.mul_assoc]
    have e : c / 2 * ((2 : Nat) : Int) = c := by omega
    rw [e]
theorem own_rnd_scale {N D k : Int} {r : UInt64} (hk : 0 < k) (h : own_rnd (N * k) (D * k) r) : own_rnd N D r := by
  refine ⟨h.1, fun V hV q => h.2.1 V hV ?_, fun V hV q => h.2.2 V hV ?_⟩
  · rw [← Int.mul_assoc]; exact Int.mul_le_mul_of_nonneg_right q (Int.le_of_lt hk)
  · rw [← Int.mul_assoc]; exact Int.mul_le_mul_of_nonneg_right q (Int.le_of_lt hk)
/-- the relative error, one unit in the last place at the most -/
theorem own_rel {N D : Int} {r : UInt64} (h : own_rnd N D r) (hD : 0 < D) (lo : 4503599627370496 * D ≤ N) (hi : N / D < ((2 ^ 2096 : Nat) : Int)) :
    Core.DFin r ∧ 4503599627370496 * (own_zv r * D - N) ≤ N ∧ 4503599627370496 * (N - own_zv r * D) ≤ N := by
  have hM : 4503599627370496 ≤ N / D := Int.le_ediv_of_mul_le hD lo
  obtain ⟨m, hm⟩ : ∃ m : Nat, N / D = (m : Int) := ⟨(N / D).toNat, by omega⟩
  have hN := Int.mul_ediv_add_emod N D
  have hr0 := Int.emod_nonneg N (show D ≠ 0 by omega)
  have hr1 := Int.emod_lt_of_pos N hD
  have m0 : m ≠ 0 := by omega
  have l1 : 2 ^ m.log2 ≤ m := Nat.log2_self_le m0
  have l2 : m < 2 ^ (m.log2 + 1) := Nat.lt_log2_self
  have l3 : 52 ≤ m.log2 := by
    apply Nat.le_of_lt_succ
    apply (Nat.pow_lt_pow_iff_right (by decide : 1 < 2)).mp
    exact Nat.lt_of_le_of_lt (show 2 ^ 52 ≤ m by omega) l2
  have l4 : m.log2 < 2096 := by
    apply (Nat.pow_lt_pow_iff_right (by decide : 1 < 2)).mp
    exact Nat.lt_of_le_of_lt l1 (by rw [hm] at hi; exact Int.ofNat_lt.mp hi)
  obtain ⟨e, he⟩ : ∃ e, m.log2 = e + 52 := ⟨m.log2 - 52, by omega⟩
  have hg : 0 < 2 ^ e := Nat.two_pow_pos e
  have p1 : 2 ^ m.log2 = 2 ^ e * 4503599627370496 := by rw [he, Nat.pow_add]
  have p2 : 2 ^ (m.log2 + 1) = 2 ^ e * 9007199254740992 := by rw [he, Nat.pow_add, Nat.pow_add]; omega
  have dm := Nat.div_add_mod m (2 ^ e)
  have ml := Nat.mod_lt m hg
  have k1 : 4503599627370496 ≤ m / 2 ^ e := (Nat.le_div_iff_mul_le hg).mpr (by rw [Nat.mul_comm]; omega)
  have k2 : m / 2 ^ e < 9007199254740992 := (Nat.div_lt_iff_lt_mul hg).mpr (by rw [Nat.mul_comm]; omega)
  obtain ⟨V1, f1, z1⟩ := own_rep_le ((m / 2 ^ e : Nat) : Int) e (by omega) (by omega)
  obtain ⟨V2, f2, z2⟩ := own_rep_le ((m / 2 ^ e + 1 : Nat) : Int) e (by omega) (by omega)
  have a1 : ((m / 2 ^ e : Nat) : Int) * ((2 ^ e : Nat) : Int) ≤ (m : Int) := by rw [← Int.natCast_mul]; exact Int.ofNat_le.mpr (Nat.div_mul_le_self _ _)
  have a2 : (m : Int) + 1 ≤ ((m / 2 ^ e + 1 : Nat) : Int) * ((2 ^ e : Nat) : Int) := by
    rw [← Int.natCast_mul]; have : m + 1 ≤ (m / 2 ^ e + 1) * 2 ^ e := by rw [Nat.add_mul, Nat.one_mul, Nat.mul_comm]; omega
    exact Int.ofNat_le.mpr this
  have a3 : ((m / 2 ^ e + 1 : Nat) : Int) * ((2 ^ e : Nat) : Int) = ((m / 2 ^ e : Nat) : Int) * ((2 ^ e : Nat) : Int) + ((2 ^ e : Nat) : Int) := by
    rw [Int.natCast_add, Int.add_mul]; simp
  have a4 : 4503599627370496 * ((2 ^ e : Nat) : Int) ≤ (m : Int) := by
    have : 2 ^ e * 4503599627370496 ≤ m := by omega
    omega
  have b1 : own_zv V1 * D ≤ N := by
    rw [z1]; have := Int.mul_le_mul_of_nonneg_right a1 (Int.le_of_lt hD); rw [hm, Int.mul_comm] at hN; omega
  have b2 : N ≤ own_zv V2 * D := by
    rw [z2]; have := Int.mul_le_mul_of_nonneg_right a2 (Int.le_of_lt hD); rw [Int.add_mul, Int.one_mul] at this; rw [hm, Int.mul_comm] at hN; omega
  have c1 := h.2.1 V1 f1.ne_nan b1
  have c2 := h.2.2 V2 f2.ne_nan b2
  rw [z1] at c1 b1; rw [z2] at c2 b2
  have d1 := Int.mul_le_mul_of_nonneg_right c1 (Int.le_of_lt hD)
  have d2 := Int.mul_le_mul_of_nonneg_right c2 (Int.le_of_lt hD)
  have d3 := Int.mul_le_mul_of_nonneg_right a4 (Int.le_of_lt hD)
  rw [a3, Int.add_mul] at d2 b2
  have d4 : (m : Int) * D ≤ N := by rw [hm, Int.mul_comm] at hN; omega
  rw [Int.mul_assoc] at d3
  refine ⟨own_fin_of h.1 f2 ?_, by omega, by omega⟩
  rw [z2]
  have s0 : 0 ≤ ((m / 2 ^ e : Nat) : Int) * ((2 ^ e : Nat) : Int) := Int.mul_nonneg (Int.natCast_nonneg _) (Int.natCast_nonneg _)
  omega
theorem own_is_mul {i j : Int} {a b : UInt64} (ha : own_is i a) (hb : own_is j b) (h : (i * j).natAbs < 2 ^ 53) : own_is (i * j) (FP.dmul a b) := by
  refine own_exact (own_dmul_rnd ha.1 hb.1) (i * j) 1074 h (by decide) ?_
  rw [ha.2, hb.2, ← own_U_eq]; simp only [Int.mul_assoc, Int.mul_comm, Int.mul_left_comm]
theorem own_is_add {i j : Int} {a b : UInt64} (ha : own_is i a) (hb : own_is j b) (h : (i + j).natAbs < 2 ^ 53) : own_is (i + j) (FP.dadd a b) := by
  refine own_exact (own_dadd_rnd ha.1 hb.1) (i + j) 1074 h (by decide) ?_
  rw [ha.2, hb.2, ← own_U_eq, Int.mul_one, Int.add_mul]
theorem own_is_sub {i j : Int} {a b : UInt64} (ha : own_is i a) (hb : own_is j b) (h : (i - j).natAbs < 2 ^ 53) : own_is (i - j) (FP.dsub a b) := by
  refine own_exact (own_dsub_rnd ha.1 hb.1) (i - j) 1074 h (by decide) ?_
  rw [ha.2, hb.2, ← own_U_eq, Int.mul_one, Int.sub_mul]
theorem own_is_l2d {x : Int64} (h : x.toInt.natAbs ≤ 2 ^ 53) : own_is x.toInt (FP.l2d x) := own_l2d h
/-- the quotient of two whole numbers, the divisor positive -/
theorem own_is_div_rnd {i j : Int} {a b : UInt64} (ha : own_is i a) (hb : own_is j b) (hj : 0 < j) : own_rnd (i * own_U) j (FP.ddiv a b) := by
  have hU := own_U_pos
  have hz : 0 < own_zv b := by rw [hb.2]; exact Int.mul_pos hj hU
  have h := own_ddiv_rnd ha.1 hb.1 (by omega)
  rw [if_pos hz, Int.natAbs_of_nonneg (Int.le_of_lt hz), ha.2, hb.2] at h
  exact own_rnd_scale hU h
end OwnFloat4
section OwnFloat5
open Jvm.FP Jvm.FP.Core
/-- a is c * 2^(j - 1074) -/
def own_at (c : Int) (j : Nat) (a : UInt64) : Prop := Core.DFin a ∧ own_zv a = c * ((2 ^ j : Nat) : Int)
theorem own_at_is {i : Int} {a : UInt64} (h : own_is i a) : own_at i 1074 a := h
theorem own_at_add {c1 c2 : Int} {j : Nat} {a b : UInt64} (ha : own_at c1 j a) (hb : own_at c2 j b) (h : (c1 + c2).natAbs < 2 ^ 53) (hj : j ≤ 2045) : own_at (c1 + c2) j (FP.dadd a b) := by
  refine own_exact (own_dadd_rnd ha.1 hb.1) (c1 + c2) j h hj ?_
  rw [ha.2, hb.2, Int.mul_one, Int.add_mul]
theorem own_at_sub {c1 c2 : Int} {j : Nat} {a b : UInt64} (ha : own_at c1 j a) (hb : own_at c2 j b) (h : (c1 - c2).natAbs < 2 ^ 53) (hj : j ≤ 2045) : own_at (c1 - c2) j (FP.dsub a b) := by
  refine own_exact (own_dsub_rnd ha.1 hb.1) (c1 - c2) j h hj ?_
  rw [ha.2, hb.2, Int.mul_one, Int.sub_mul]
theorem own_at_mul {c1 c2 : Int} {j1 j2 : Nat} {a b : UInt64} (ha : own_at c1 j1 a) (hb : own_at c2 j2 b) (j : Nat) (e : j1 + j2 = j + 1074) (h : (c1 * c2).natAbs < 2 ^ 53) (hj : j ≤ 2045) : own_at (c1 * c2) j (FP.dmul a b) := by
  refine own_exact (own_dmul_rnd ha.1 hb.1) (c1 * c2) j h hj ?_
  have p : ((2 ^ j : Nat) : Int) * own_U = ((2 ^ j1 : Nat) : Int) * ((2 ^ j2 : Nat) : Int) := by rw [own_U_eq, ← Int.natCast_mul, ← Int.natCast_mul, ← Nat.pow_add, ← Nat.pow_add, e]
  rw [ha.2, hb.2, Int.mul_assoc (c1 * c2), p]; simp only [Int.mul_assoc, Int.mul_comm, Int.mul_left_comm]
/-- a quotient that is exact -/
theorem own_at_div {c1 c2 c : Int} {j1 j2 : Nat} {a b : UInt64} (ha : own_at c1 j1 a) (hb : own_at c2 j2 b) (hc : 0 < c2) (j : Nat) (e : c * c2 * ((2 ^ (j + j2) : Nat) : Int) = c1 * ((2 ^ (j1 + 1074) : Nat) : Int)) (h : c.natAbs < 2 ^ 53) (hj : j ≤ 2045) : own_at c j (FP.ddiv a b) := by
  have hz : 0 < own_zv b := by rw [hb.2]; exact Int.mul_pos hc (Int.natCast_pos.mpr (Nat.two_pow_pos _))
  have hr := own_ddiv_rnd ha.1 hb.1 (by omega)
  rw [if_pos hz, Int.natAbs_of_nonneg (Int.le_of_lt hz)] at hr
  refine own_exact hr c j h hj ?_
  rw [ha.2, hb.2, own_U_eq]
  rw [Nat.pow_add, Nat.pow_add, Int.natCast_mul, Int.natCast_mul] at e
  have l : c * ((2 ^ j : Nat) : Int) * (c2 * ((2 ^ j2 : Nat) : Int)) = c * c2 * (((2 ^ j : Nat) : Int) * ((2 ^ j2 : Nat) : Int)) := by simp only [Int.mul_assoc, Int.mul_comm, Int.mul_left_comm]
  rw [l, e, Int.mul_assoc]
theorem own_at_up {c : Int} {j i : Nat} {a : UInt64} (h : own_at c (j + i) a) : own_at (c * ((2 ^ i : Nat) : Int)) j a :=
  ⟨h.1, by rw [h.2, Nat.pow_add, Int.natCast_mul, Int.mul_assoc, Int.mul_comm ((2 ^ i : Nat) : Int)]⟩
theorem own_at_dn {c : Int} {j i : Nat} {a : UInt64} (h : own_at (c * ((2 ^ i : Nat) : Int)) j a) : own_at c (j + i) a :=
  ⟨h.1, by rw [h.2, Nat.pow_add, Int.natCast_mul, Int.mul_assoc, Int.mul_comm ((2 ^ i : Nat) : Int)]⟩
theorem own_at_eq {c : Int} {j : Nat} {a b : UInt64} (ha : own_at c j a) (hb : own_at c j b) (o : CmpOp) : cmpValue (FP.dcmp a b) o = (0 : Int32) := own_cmp_eq ha.1.ne_nan hb.1.ne_nan (by rw [ha.2, hb.2]) o
theorem own_at_nn {c : Int} {j : Nat} {a : UInt64} (h : own_at c j a) : NoNaN64 a := own_fin_nn h.1
end OwnFloat5
section OwnFloat6
open Jvm.FP Jvm.FP.Core
theorem own_is_div {k j : Int} {a b : UInt64} (ha : own_is (k * j) a) (hb : own_is j b) (hj : j ≠ 0) (h : k.natAbs < 2 ^ 53) : own_is k (FP.ddiv a b) := by
  have hU := own_U_pos
  have hz : own_zv b ≠ 0 := by rw [hb.2]; intro q; rcases Int.mul_eq_zero.mp q with q | q <;> omega
  refine own_exact (own_ddiv_rnd ha.1 hb.1 hz) k 1074 h (by decide) ?_
  rw [← own_U_eq]
  by_cases q : 0 < own_zv b
  · rw [if_pos q, Int.natAbs_of_nonneg (Int.le_of_lt q), ha.2, hb.2]; simp only [Int.mul_assoc, Int.mul_comm, Int.mul_left_comm]
  · rw [if_neg q]
    have e : ((own_zv b).natAbs : Int) = -own_zv b := by omega
    rw [e, ha.2, hb.2, Int.mul_neg]; congr 1; simp only [Int.mul_assoc, Int.mul_comm, Int.mul_left_comm]
theorem own_fin_between {r V1 V2 : UInt64} (hr : Core.val64 r ≠ .nan) (h1 : Core.DFin V1) (h2 : Core.DFin V2) (a : own_zv V1 ≤ own_zv r) (b : own_zv r ≤ own_zv V2) : Core.DFin r := by
  by_cases q : (own_zv r).natAbs ≤ (own_zv V1).natAbs
  · exact own_fin_of hr h1 q
  · exact own_fin_of hr h2 (by omega)
/-- a quotient by a whole number, of any dividend -/
theorem own_div_rnd {j : Int} {a b : UInt64} (ha : Core.DFin a) (hb : own_is j b) (hj : 0 < j) : own_rnd (own_zv a) j (FP.ddiv a b) := by
  have hU := own_U_pos
  have hz : 0 < own_zv b := by rw [hb.2]; exact Int.mul_pos hj hU
  have h := own_ddiv_rnd ha hb.1 (by omega)
  rw [if_pos hz, Int.natAbs_of_nonneg (Int.le_of_lt hz), hb.2] at h
  exact own_rnd_scale hU h
theorem own_rep_is (k : Int) (h : k.natAbs < 2 ^ 53) : ∃ V, own_is k V := own_rep k 1074 h (by decide)
end OwnFloat6
section OwnFloat7
open Jvm.FP Jvm.FP.Core
/-- one value, not nought: one pattern of bits -/
theorem own_bits {a b : UInt64} (ha : Core.DFin a) (hb : Core.DFin b) (e : own_zv a = own_zv b) (h : own_zv b ≠ 0) : a = b := by
  refine Core.eq_bits (fun q => h ?_) ?_
  · have := Core.DZero.zval q; exact this
  · show FP.dcmp a b = _
    rw [own_dcmp ha.ne_nan hb.ne_nan, e, Core.compare_self_int]
theorem own_at_bits {c : Int} {j : Nat} {a b : UInt64} (ha : own_at c j a) (hb : own_at c j b) (h : c ≠ 0) : a = b := by
  refine own_bits ha.1 hb.1 (by rw [ha.2, hb.2]) ?_
  rw [hb.2]; intro q
  rcases Int.mul_eq_zero.mp q with q | q
  · exact h q
  · have := Nat.two_pow_pos j; omega
theorem own_fin64 {a : UInt64} (h : Core.DFin a) : Fin64 a := fin64_core.mpr h
end OwnFloat7
section OwnFloat8
open Jvm.FP Jvm.FP.Core
/-- r's magnitude is A / B (units of 2^-1074), rounded to nearest -/
def own_rr (A B : Nat) (r : UInt64) : Prop := 0 < B ∧ ∃ s, Core.val64 r = Core.roundRatio Core.b64 s A B Core.b64.qmin
theorem own_mag {a : UInt64} : (own_zv a).natAbs = Core.zmag Core.b64 (Core.val64 a) := by unfold own_zv Core.zval; rw [Core.natAbs_signed]
theorem own_in0 (A : Nat) : Core.inUnits A Core.b64.qmin Core.b64.qmin = A := by unfold Core.inUnits; rw [own_pow0, Nat.mul_one]
theorem own_rr_mono {A1 B1 A2 B2 : Nat} {r1 r2 : UInt64} (h1 : own_rr A1 B1 r1) (h2 : own_rr A2 B2 r2) (f1 : Core.DFin r1) (f2 : Core.DFin r2) (h : A1 * B2 ≤ A2 * B1) : (own_zv r1).natAbs ≤ (own_zv r2).natAbs := by
  obtain ⟨b1, s1, e1⟩ := h1
  obtain ⟨b2, s2, e2⟩ := h2
  have n1 := f1.ne_nan; have n2 := f2.ne_nan
  rw [own_mag, own_mag]
  by_cases q1 : A1 ≤ Core.zmag Core.b64 (Core.val64 r2) * B1
  · have := Core.zmag_roundRatio_le Core.good_b64 (s := s1) (A := A1) (B := B1) (e := Core.b64.qmin) (e0 := Core.b64.qmin) b1 (Core.val64_fits r2) n2 (Int.le_refl _) (Int.le_refl _) (by rw [own_in0, own_pow0, Nat.mul_one]; exact q1)
    rw [← e1] at this; exact this
  · by_cases q2 : Core.zmag Core.b64 (Core.val64 r1) * B2 ≤ A2
    · have := Core.zmag_roundRatio_ge Core.good_b64 (s := s2) (A := A2) (B := B2) (e := Core.b64.qmin) (e0 := Core.b64.qmin) b2 (Core.val64_fits r1) (Int.le_refl _) (Int.le_refl _) (by rw [own_in0, own_pow0, Nat.mul_one]; exact q2)
      rw [← e2] at this; exact this
    · apply Nat.le_of_not_lt; intro hlt
      obtain ⟨t1, c1, x1, v1⟩ := f1
      obtain ⟨t2, c2, x2, v2⟩ := f2
      have g1 := Core.val64_fits r1; rw [v1] at g1
      have g2 := Core.val64_fits r2; rw [v2] at g2
      have d1 := Core.roundRatio_nearest Core.good_b64 (e0 := Core.b64.qmin) b1 (e1.symm.trans v1) g2.1 g2.2.1 (Int.le_refl _) (Int.le_refl _)
      have d2 := Core.roundRatio_nearest Core.good_b64 (e0 := Core.b64.qmin) b2 (e2.symm.trans v2) g1.1 g1.2.1 (Int.le_refl _) (Int.le_refl _)
      unfold Core.distance at d1 d2
      rw [own_in0] at d1 d2
      have z1 : Core.zmag Core.b64 (Core.val64 r1) = Core.inUnits c1 x1 Core.b64.qmin := by rw [v1]; rfl
      have z2 : Core.zmag Core.b64 (Core.val64 r2) = Core.inUnits c2 x2 Core.b64.qmin := by rw [v2]; rfl
      rw [← z1, ← z2] at d1 d2
      generalize hz1 : Core.zmag Core.b64 (Core.val64 r1) = Z1 at *
      generalize hz2 : Core.zmag Core.b64 (Core.val64 r2) = Z2 at *
      rw [← Int.natCast_mul, ← Int.natCast_mul] at d1 d2
      -- A1 < Z1 * B1 as well
      have k1 : A1 * B2 < Z1 * B1 * B2 := by
        have : A2 * B1 < Z1 * B2 * B1 := Nat.mul_lt_mul_of_pos_right (by omega) b1
        have e : Z1 * B2 * B1 = Z1 * B1 * B2 := by simp only [Nat.mul_assoc, Nat.mul_comm, Nat.mul_left_comm]
        omega
      have k2 : A1 < Z1 * B1 := Nat.lt_of_mul_lt_mul_right k1
      have k3 : Z2 * B1 * B2 < A2 * B1 := by
        have : Z2 * B1 * B2 < A1 * B2 := Nat.mul_lt_mul_of_pos_right (by omega) b2
        omega
      have k4 : Z2 * B2 < A2 := by
        have e : Z2 * B1 * B2 = Z2 * B2 * B1 := by simp only [Nat.mul_assoc, Nat.mul_comm, Nat.mul_left_comm]
        rw [e] at k3; exact Nat.lt_of_mul_lt_mul_right k3
      have m1 : (Z1 + Z2) * B1 ≤ 2 * A1 := by rw [Nat.add_mul]; omega
      have m2 : 2 * A2 ≤ (Z1 + Z2) * B2 := by rw [Nat.add_mul]; omega
      have m3 := Nat.mul_le_mul_right B2 m1
      have m4 := Nat.mul_le_mul_right B1 m2
      have e3 : (Z1 + Z2) * B1 * B2 = (Z1 + Z2) * B2 * B1 := by simp only [Nat.mul_assoc, Nat.mul_comm, Nat.mul_left_comm]
      have e4 : 2 * A1 * B2 = 2 * (A1 * B2) := Nat.mul_assoc _ _ _
      have e5 : 2 * A2 * B1 = 2 * (A2 * B1) := Nat.mul_assoc _ _ _
      have e6 : A1 * B2 = A2 * B1 := by omega
      have cg := Core.roundRatio_congr (f := Core.b64) (s := s1) (e := Core.b64.qmin) (e' := Core.b64.qmin) b1 b2 (by rw [own_pow0, Nat.mul_one, Nat.mul_one]; exact e6)
      have w1 := Core.zmag_roundRatio_le Core.good_b64 (s := s1) (A := A2) (B := B2) (e := Core.b64.qmin) (e0 := Core.b64.qmin) (V := Core.val64 r2) b2 (Core.val64_fits r2) n2 (Int.le_refl _) (Int.le_refl _)
      -- one sign or the other: the magnitudes are one
      have sg : Core.zmag Core.b64 (Core.roundRatio Core.b64 s1 A2 B2 Core.b64.qmin) = Core.zmag Core.b64 (Core.roundRatio Core.b64 s2 A2 B2 Core.b64.qmin) := by
        by_cases q : s1 = s2
        · rw [q]
        · have e : s2 = !s1 := by cases s1 <;> cases s2 <;> simp at q ⊢
          have ng := Core.negate_roundRatio Core.b64 s1 A2 B2 Core.b64.qmin
          rw [e, ← ng]
          cases Core.roundRatio Core.b64 s1 A2 B2 Core.b64.qmin <;> rfl
      rw [← cg, ← e1, ← e2, hz1, hz2] at sg
      omega
theorem own_rr_of_round {x : UInt64} {sg : Bool} {n : Nat} {e : Int} {A B : Nat} (hx : Core.val64 x = Core.round Core.b64 (.fin sg n e)) (hB : 0 < B) (h : n * B * 2 ^ (e - Core.b64.qmin).toNat = A * 1 * 2 ^ (Core.b64.qmin - e).toNat) : own_rr A B x :=
  ⟨hB, sg, hx.trans (Core.roundRatio_congr (f := Core.b64) (s := sg) (by decide) hB h)⟩
theorem own_rr_dmul {a b : UInt64} (ha : Core.DFin a) (hb : Core.DFin b) : own_rr ((own_zv a).natAbs * (own_zv b).natAbs) Core.one64 (FP.dmul a b) := by
  obtain ⟨s, c, q, ea⟩ := ha
  obtain ⟨t, d, r, eb⟩ := hb
  have fa := Core.val64_fits a; have fb := Core.val64_fits b
  rw [ea] at fa; rw [eb] at fb
  have h1 := fa.2.1; have h2 := fb.2.1
  have hq := Core.qmin_neg Core.good_b64
  have hv : Core.val64 (FP.dmul a b) = Core.round Core.b64 (.fin (s != t) (c * d) (q + r)) := by
    show Core.val64 (Core.dmul a b) = _
    rw [Core.val64_dmul, ea, eb]; rfl
  refine own_rr_of_round hv Core.one64_pos ?_
  rw [own_mag, own_mag, ea, eb]
  show _ = Core.inUnits c q Core.b64.qmin * Core.inUnits d r Core.b64.qmin * 1 * _
  unfold Core.inUnits
  rw [← Core.pow_qmin64, Nat.mul_one]
  have l : c * d * 2 ^ (-Core.b64.qmin).toNat * 2 ^ (q + r - Core.b64.qmin).toNat = c * d * 2 ^ ((-Core.b64.qmin).toNat + (q + r - Core.b64.qmin).toNat) := by rw [Nat.pow_add, Nat.mul_assoc (c * d)]
  have m : c * 2 ^ (q - Core.b64.qmin).toNat * (d * 2 ^ (r - Core.b64.qmin).toNat) * 2 ^ (Core.b64.qmin - (q + r)).toNat = c * d * 2 ^ ((q - Core.b64.qmin).toNat + (r - Core.b64.qmin).toNat + (Core.b64.qmin - (q + r)).toNat) := by
    rw [Nat.pow_add, Nat.pow_add]; simp only [Nat.mul_assoc, Nat.mul_comm, Nat.mul_left_comm]
  rw [l, m]; congr 2; omega
theorem own_rr_dadd {a b : UInt64} (ha : Core.DFin a) (hb : Core.DFin b) : own_rr (own_zv a + own_zv b).natAbs 1 (FP.dadd a b) := by
  obtain ⟨s, c, q, ea⟩ := ha
  obtain ⟨t, d, r, eb⟩ := hb
  have fa := Core.val64_fits a; have fb := Core.val64_fits b
  rw [ea] at fa; rw [eb] at fb
  obtain ⟨sg, n, e, h1, h2, h3⟩ := Core.sum_units fa fb
  have hv : Core.val64 (FP.dadd a b) = Core.round Core.b64 (.fin sg n e) := by
    show Core.val64 (Core.dadd a b) = _
    rw [Core.val64_dadd, ea, eb, h1]
  refine own_rr_of_round hv (by decide) ?_
  have z : (own_zv a + own_zv b).natAbs = Core.inUnits n e Core.b64.qmin := by
    unfold own_zv; rw [ea, eb, ← h3, Core.natAbs_signed]
  rw [z, Nat.mul_one, Nat.mul_one]
  unfold Core.inUnits
  rw [show (Core.b64.qmin - e).toNat = 0 by omega, Nat.pow_zero, Nat.mul_one]
theorem own_rr_ddiv {a b : UInt64} (ha : Core.DFin a) (hb : Core.DFin b) (hz : own_zv b ≠ 0) : own_rr ((own_zv a).natAbs * Core.one64) (own_zv b).natAbs (FP.ddiv a b) := by
  obtain ⟨s, c, q, ea⟩ := ha
  obtain ⟨t, d, r, eb⟩ := hb
  have fa := Core.val64_fits a; have fb := Core.val64_fits b
  rw [ea] at fa; rw [eb] at fb
  have h1 := fa.2.1; have h2 := fb.2.1
  have hq := Core.qmin_neg Core.good_b64
  have zb : own_zv b = Core.signed t (Core.inUnits d r Core.b64.qmin) := by unfold own_zv; rw [eb]; rfl
  have d0 : d ≠ 0 := fun h => hz (by rw [zb, h]; unfold Core.inUnits; rw [Nat.zero_mul]; exact Core.signed_zero t)
  have hv : Core.val64 (FP.ddiv a b) = Core.roundRatio Core.b64 (s != t) c d (q - r) := by
    show Core.val64 (Core.ddiv a b) = _
    rw [Core.val64_ddiv, ea, eb]; show (if d = 0 then _ else _) = _; rw [if_neg d0]
  refine ⟨by omega, s != t, hv.trans (Core.roundRatio_congr (Nat.pos_of_ne_zero d0) (by omega) ?_)⟩
  rw [own_mag, own_mag, ea, eb]
  show c * Core.inUnits d r Core.b64.qmin * _ = Core.inUnits c q Core.b64.qmin * Core.one64 * d * _
  unfold Core.inUnits
  rw [← Core.pow_qmin64]
  have l : c * (d * 2 ^ (r - Core.b64.qmin).toNat) * 2 ^ (q - r - Core.b64.qmin).toNat = c * d * 2 ^ ((r - Core.b64.qmin).toNat + (q - r - Core.b64.qmin).toNat) := by
    rw [Nat.pow_add]; simp only [Nat.mul_assoc, Nat.mul_comm, Nat.mul_left_comm]
  have m : c * 2 ^ (q - Core.b64.qmin).toNat * 2 ^ (-Core.b64.qmin).toNat * d * 2 ^ (Core.b64.qmin - (q - r)).toNat = c * d * 2 ^ ((q - Core.b64.qmin).toNat + (-Core.b64.qmin).toNat + (Core.b64.qmin - (q - r)).toNat) := by
    rw [Nat.pow_add, Nat.pow_add]; simp only [Nat.mul_assoc, Nat.mul_comm, Nat.mul_left_comm]
  rw [l, m]; congr 2; omega
end OwnFloat8
section OwnFloat9
open Jvm.FP Jvm.FP.Core
/-- a quotient by a power of two -/
theorem own_at_divp {c : Int} {j i : Nat} {a b : UInt64} (ha : own_at c (j + i) a) (hb : own_at 1 (1074 + i) b) (h : c.natAbs < 2 ^ 53) (hj : j ≤ 2045) : own_at c j (FP.ddiv a b) := by
  refine own_at_div ha hb (by decide) j ?_ h hj
  rw [Int.mul_one, show j + (1074 + i) = j + i + 1074 by omega]
theorem own_8d : own_at 1 (1074 + 3) (4620693217682128896 : UInt64) := ⟨by rw [Core.fin_bits]; decide, by decide +kernel⟩
theorem own_2d : own_at 1 (1074 + 1) (4611686018427387904 : UInt64) := ⟨by rw [Core.fin_bits]; decide, by decide +kernel⟩
end OwnFloat9
section OwnFloat10
open Jvm.FP Jvm.FP.Core
/-- a lies from 0 to X -/
def own_bd (X : Int) (a : UInt64) : Prop := Core.DFin a ∧ 0 ≤ own_zv a ∧ own_zv a ≤ X * own_U
theorem own_bd_of {N D X : Int} {r : UInt64} (h : own_rnd N D r) (hX : 0 ≤ X) (hX2 : X.natAbs < 2 ^ 53) (hD : 0 ≤ D) (h0 : 0 ≤ N) (h1 : N ≤ X * own_U * D) : own_bd X r := by
  obtain ⟨V, f, z⟩ := own_rep_is X hX2
  have a := h.2.1 0 own_is_0.1.ne_nan (by rw [own_is_0.2, Int.zero_mul, Int.zero_mul]; exact h0)
  have b := h.2.2 V f.ne_nan (by rw [z]; exact h1)
  rw [own_is_0.2, Int.zero_mul] at a
  have p : 0 ≤ X * own_U := Int.mul_nonneg hX (Int.le_of_lt own_U_pos)
  refine ⟨own_fin_of h.1 f (by rw [z] at b ⊢; omega), a, by rw [z] at b; exact b⟩
theorem own_bd_mul {X Y : Int} {a b : UInt64} (ha : own_bd X a) (hb : own_bd Y b) (hX : 0 ≤ X) (hY : 0 ≤ Y) (h : (X * Y).natAbs < 2 ^ 53) : own_bd (X * Y) (FP.dmul a b) := by
  have hU := own_U_pos
  refine own_bd_of (own_dmul_rnd ha.1 hb.1) (Int.mul_nonneg hX hY) h (Int.le_of_lt hU) (Int.mul_nonneg ha.2.1 hb.2.1) ?_
  have e : X * Y * own_U * own_U = (X * own_U) * (Y * own_U) := by simp only [Int.mul_assoc, Int.mul_comm, Int.mul_left_comm]
  rw [e]
  exact Int.mul_le_mul ha.2.2 hb.2.2 hb.2.1 (Int.mul_nonneg hX (Int.le_of_lt hU))
theorem own_bd_add {X Y : Int} {a b : UInt64} (ha : own_bd X a) (hb : own_bd Y b) (hX : 0 ≤ X) (hY : 0 ≤ Y) (h : (X + Y).natAbs < 2 ^ 53) : own_bd (X + Y) (FP.dadd a b) := by
  have h1 := ha.2.1; have h2 := hb.2.1; have h3 := ha.2.2; have h4 := hb.2.2
  refine own_bd_of (own_dadd_rnd ha.1 hb.1) (by omega) h (by decide) (by omega) ?_
  rw [Int.mul_one, Int.add_mul]; omega
theorem own_bd_div {X m : Int} {a b : UInt64} (ha : own_bd X a) (hb : Core.DFin b) (hp : 0 < own_zv b) (hm : own_U ≤ m * own_zv b) (hX : 0 ≤ X) (h0 : 0 ≤ m) (h : (X * m).natAbs < 2 ^ 53) : own_bd (X * m) (FP.ddiv a b) := by
  have hU := own_U_pos
  have hr := own_ddiv_rnd ha.1 hb (by omega)
  rw [if_pos hp, Int.natAbs_of_nonneg (Int.le_of_lt hp)] at hr
  refine own_bd_of hr (Int.mul_nonneg hX h0) h (Int.le_of_lt hp) (Int.mul_nonneg ha.2.1 (Int.le_of_lt hU)) ?_
  have e : X * m * own_U * own_zv b = (X * own_U) * (m * own_zv b) := by simp only [Int.mul_assoc, Int.mul_comm, Int.mul_left_comm]
  rw [e]
  exact Int.mul_le_mul ha.2.2 hm (Int.le_of_lt hU) (Int.mul_nonneg hX (Int.le_of_lt hU))
theorem own_bd_is {i : Int} {a : UInt64} (h : own_is i a) (h0 : 0 ≤ i) {X : Int} (hX : i ≤ X) : own_bd X a := ⟨h.1, by rw [h.2]; exact Int.mul_nonneg h0 (Int.le_of_lt own_U_pos), by rw [h.2]; exact Int.mul_le_mul_of_nonneg_right hX (Int.le_of_lt own_U_pos)⟩
end OwnFloat10

theorem own_d1_0 : decode jdk_29_method_70_code 0 = .ok (.lload_n 0, 1) := by decide +kernel
theorem own_d1_1 : decode jdk_29_method_70_code 1 = .ok (.lload_n 2, 1) := by decide +kernel
theorem own_d1_2 : decode jdk_29_method_70_code 2 = .ok (.lcmp, 1) := by decide +kernel
theorem own_d1_3 : decode jdk_29_method_70_code 3 = .ok (.ifCond .gt 7, 3) := by decide +kernel
theorem own_d1_6 : decode jdk_29_method_70_code 6 = .ok (.lload_n 0, 1) := by decide +kernel
theorem own_d1_7 : decode jdk_29_method_70_code 7 = .ok (.goto 4, 3) := by decide +kernel
theorem own_d1_10 : decode jdk_29_method_70_code 10 = .ok (.lload_n 2, 1) := by decide +kernel
theorem own_d1_11 : decode jdk_29_method_70_code 11 = .ok (.lreturn, 1) := by decide +kernel
def own_j1_0 (q1_0 : Int64) (q1_1 : Int64) : Int64 := if q1_1 < q1_0 then q1_1 else q1_0
theorem own_ef1 (m : MethodId) (q1_0 : Int64) (q1_1 : Int64) : entryFrame m #[(.long q1_0), (.long q1_1)] 4 = mkF m 0 #[.val (.long q1_0), .second, .val (.long q1_1), .second] [] := by first | (simp [entryFrame, mkF, argsToLocals, Value.category]; done) | rfl
def own_Q1 (Z : State) (q1_0 : Int64) (q1_1 : Int64) (h0 : Heap) (n0 : Nat) (v : Option Value) (h : Heap) (L : List Loc) : Prop := v = some (.long (own_j1_0 q1_0 q1_1)) ∧ Fr n0 L ∧ h = h0
set_option maxRecDepth 65536 in
set_option maxHeartbeats 40000000 in
theorem own_rm1 (l : Launch) (Z : State) (a0 : Array Value) (hw : ∀ d ∈ tables_1, d.before a0 Z = true) (ws : List Jvm.Cond) (q1_0 : Int64) (q1_1 : Int64) (h0 : Heap) (n0 : Nat) (Z0 : n0 ≤ h0.size) :
    MetFree l (⟨"java/lang/Math", "min", "(JJ)J"⟩ : MethodName) (head1 (Jvm.Cond.code (⟨"java/lang/Math", "min", "(JJ)J"⟩ : MethodName) jdk_29_method_70_code 4 (some .long) :: ws) ({ frames := 0, cells := 0, slots := 0, locals := 0 } : Room)) (fun a U => a = #[(.long q1_0), (.long q1_1)] ∧ Z.Warmed39 U.vm ∧ U.heap = h0) (fun _ _ _ _ _ => True) (fun _ U o U' => ∃ v L, o = .returned v ∧ own_Q1 Z q1_0 q1_1 h0 n0 v U'.heap L ∧ FrameEnd U o U' L ({ frames := 0, cells := 0, slots := 0, locals := 0 } : Room).cells ({ frames := 0, cells := 0, slots := 0, locals := 0 } : Room).slots) := by
  refine MetFree.of_bodySF (Jvm.Free.JP.mathPlain rfl (by decide +kernel)) hisR ?_
  intro p e s m args below meth c s₁ Bd hml0 hP hK
  obtain ⟨rfl, hZ, hh⟩ := hP
  have hx := Bd.exec
  have hby := Bd.bytes
  have hml : c.maxLocals = 4 := hml0
  have hown : s.vm.findClass "java/lang/Math" = some m.cls := findClass_of_methodNamed Bd.named
  have hnm := (name_of_methodNamed Bd.named Bd.method).1
  have X0 : Stand p l e ({ frames := 0, cells := 0, slots := 0, locals := 0 } : Room) s m #[(.long q1_0), (.long q1_1)] below meth c s₁ [] 0 0 := Stand.of_body Bd
  have e0 : s₁.heap = h0 := by rw [← hh, Bd.state]; rfl
  have N0 := Fr.nil n0
  have Zr : h0.size ≤ h0.size := Nat.le_refl _
  have pre0 : ∀ t, Steps p.tables e below (s₁.setTop (mkF m 0 #[.val (.long q1_0), .second, .val (.long q1_1), .second] [])) t → Steps p.tables e below (s₁.setTop (entryFrame m #[(.long q1_0), (.long q1_1)] 4)) t := fun t k => castTop (own_ef1 m q1_0 q1_1) k
  obtain ⟨Tj1_1, lj1_1, Xj1_1, Nj1_1, ej1_1, stj1_1⟩ : ∃ (T' : State) (l' : List Loc), Stand p l e ({ frames := 0, cells := 0, slots := 0, locals := 0 } : Room) s m #[(.long q1_0), (.long q1_1)] below meth c T' l' 0 0 ∧ Fr n0 l' ∧ T'.heap = h0 ∧ ∀ target, Steps p.tables e below (T'.setTop (mkF m 11 #[.val (.long q1_0), .second, .val (.long q1_1), .second] [(.long (own_j1_0 q1_0 q1_1))])) target → Steps p.tables e below (s₁.setTop (mkF m 3 #[.val (.long q1_0), .second, .val (.long q1_1), .second] [(.int (XT.cmpL q1_0 q1_1))])) target := by
    by_cases hj1_1 : q1_1 < q1_0
    · refine ⟨_, _, X0, N0, e0, fun target kt => ?_⟩
      rw [(show (own_j1_0 q1_0 q1_1) = q1_1 from if_pos hj1_1)] at kt
      show Steps p.tables e below (s₁.setTop (mkF m 3 #[.val (.long q1_0), .second, .val (.long q1_1), .second] [(.int (XT.cmpL q1_0 q1_1))])) _
      refine XS.ifYes X0.here hx rfl (pc0 := 3) (pc' := 10) rfl (hb hby own_d1_3) rfl (XT.ll_gt_t hj1_1) (by decide) (by decide) ?_
      show Steps p.tables e below (s₁.setTop (mkF m 10 #[.val (.long q1_0), .second, .val (.long q1_1), .second] [])) _
      refine XT.lloadN X0.here hx rfl (hb hby own_d1_10) rfl ?_
      exact kt
    · refine ⟨_, _, X0, N0, e0, fun target kt => ?_⟩
      rw [(show (own_j1_0 q1_0 q1_1) = q1_0 from if_neg hj1_1)] at kt
      show Steps p.tables e below (s₁.setTop (mkF m 3 #[.val (.long q1_0), .second, .val (.long q1_1), .second] [(.int (XT.cmpL q1_0 q1_1))])) _
      refine XS.ifNo X0.here hx rfl (hb hby own_d1_3) rfl (XT.ll_gt_f hj1_1) ?_
      show Steps p.tables e below (s₁.setTop (mkF m 6 #[.val (.long q1_0), .second, .val (.long q1_1), .second] [])) _
      refine XT.lloadN X0.here hx rfl (hb hby own_d1_6) rfl ?_
      show Steps p.tables e below (s₁.setTop (mkF m 7 #[.val (.long q1_0), .second, .val (.long q1_1), .second] [(.long q1_0)])) _
      refine XS.goto X0.here hx rfl (pc0 := 7) (pc' := 11) rfl (hb hby own_d1_7) (by decide) (by decide) ?_
      exact kt
  obtain ⟨fs, hr, hrun, hended, hW, hsame⟩ := Xj1_1.leave (v := some (.long (own_j1_0 q1_0 q1_1))) (fun h => by rw [Bd.returns] at h; cases h)
  refine ⟨_, _, pre0 _ (?_), hrun, hended, _, _, rfl, ?_, ⟨_, rfl⟩, hW, hsame.mono (by decide) (by decide)⟩
  · show Steps p.tables e below (s₁.setTop (mkF m 0 #[.val (.long q1_0), .second, .val (.long q1_1), .second] [])) _
    refine XT.lloadN X0.here hx rfl (hb hby own_d1_0) rfl ?_
    show Steps p.tables e below (s₁.setTop (mkF m 1 #[.val (.long q1_0), .second, .val (.long q1_1), .second] [(.long q1_0)])) _
    refine XT.lloadN X0.here hx rfl (hb hby own_d1_1) rfl ?_
    show Steps p.tables e below (s₁.setTop (mkF m 2 #[.val (.long q1_0), .second, .val (.long q1_1), .second] [(.long q1_1), (.long q1_0)])) _
    refine XT.lcmp X0.here hx rfl (hb hby own_d1_2) rfl ?_
    show Steps p.tables e below (s₁.setTop (mkF m 3 #[.val (.long q1_0), .second, .val (.long q1_1), .second] [(.int (XT.cmpL q1_0 q1_1))])) _
    refine stj1_1 _ ?_
    show Steps p.tables e below (Tj1_1.setTop (mkF m 11 #[.val (.long q1_0), .second, .val (.long q1_1), .second] [(.long (own_j1_0 q1_0 q1_1))])) _
    jvm_step Xj1_1.here [Xj1_1.here.top, hx, (hb hby own_d1_11), Xj1_1.method', Bd.returns, narrow]
    first | (intro acts; rw [hr _ acts rfl rfl rfl]) | rw [hr _ _ rfl rfl rfl]
    exact Steps.refl _
  · show own_Q1 Z q1_0 q1_1 h0 n0 _ Tj1_1.heap _
    rw [ej1_1]
    exact ⟨rfl, Nj1_1, rfl⟩
theorem own_d2_0 : decode jdk_29_method_66_code 0 = .ok (.lload_n 0, 1) := by decide +kernel
theorem own_d2_1 : decode jdk_29_method_66_code 1 = .ok (.lload_n 2, 1) := by decide +kernel
theorem own_d2_2 : decode jdk_29_method_66_code 2 = .ok (.lcmp, 1) := by decide +kernel
theorem own_d2_3 : decode jdk_29_method_66_code 3 = .ok (.ifCond .lt 7, 3) := by decide +kernel
theorem own_d2_6 : decode jdk_29_method_66_code 6 = .ok (.lload_n 0, 1) := by decide +kernel
theorem own_d2_7 : decode jdk_29_method_66_code 7 = .ok (.goto 4, 3) := by decide +kernel
theorem own_d2_10 : decode jdk_29_method_66_code 10 = .ok (.lload_n 2, 1) := by decide +kernel
theorem own_d2_11 : decode jdk_29_method_66_code 11 = .ok (.lreturn, 1) := by decide +kernel
def own_j2_0 (q2_0 : Int64) (q2_1 : Int64) : Int64 := if q2_0 < q2_1 then q2_1 else q2_0
theorem own_ef2 (m : MethodId) (q2_0 : Int64) (q2_1 : Int64) : entryFrame m #[(.long q2_0), (.long q2_1)] 4 = mkF m 0 #[.val (.long q2_0), .second, .val (.long q2_1), .second] [] := by first | (simp [entryFrame, mkF, argsToLocals, Value.category]; done) | rfl
def own_Q2 (Z : State) (q2_0 : Int64) (q2_1 : Int64) (h0 : Heap) (n0 : Nat) (v : Option Value) (h : Heap) (L : List Loc) : Prop := v = some (.long (own_j2_0 q2_0 q2_1)) ∧ Fr n0 L ∧ h = h0
set_option maxRecDepth 65536 in
set_option maxHeartbeats 40000000 in
theorem own_rm2 (l : Launch) (Z : State) (a0 : Array Value) (hw : ∀ d ∈ tables_1, d.before a0 Z = true) (ws : List Jvm.Cond) (q2_0 : Int64) (q2_1 : Int64) (h0 : Heap) (n0 : Nat) (Z0 : n0 ≤ h0.size) :
    MetFree l (⟨"java/lang/Math", "max", "(JJ)J"⟩ : MethodName) (head1 (Jvm.Cond.code (⟨"java/lang/Math", "max", "(JJ)J"⟩ : MethodName) jdk_29_method_66_code 4 (some .long) :: ws) ({ frames := 0, cells := 0, slots := 0, locals := 0 } : Room)) (fun a U => a = #[(.long q2_0), (.long q2_1)] ∧ Z.Warmed39 U.vm ∧ U.heap = h0) (fun _ _ _ _ _ => True) (fun _ U o U' => ∃ v L, o = .returned v ∧ own_Q2 Z q2_0 q2_1 h0 n0 v U'.heap L ∧ FrameEnd U o U' L ({ frames := 0, cells := 0, slots := 0, locals := 0 } : Room).cells ({ frames := 0, cells := 0, slots := 0, locals := 0 } : Room).slots) := by
  refine MetFree.of_bodySF (Jvm.Free.JP.mathPlain rfl (by decide +kernel)) hisR ?_
  intro p e s m args below meth c s₁ Bd hml0 hP hK
  obtain ⟨rfl, hZ, hh⟩ := hP
  have hx := Bd.exec
  have hby := Bd.bytes
  have hml : c.maxLocals = 4 := hml0
  have hown : s.vm.findClass "java/lang/Math" = some m.cls := findClass_of_methodNamed Bd.named
  have hnm := (name_of_methodNamed Bd.named Bd.method).1
  have X0 : Stand p l e ({ frames := 0, cells := 0, slots := 0, locals := 0 } : Room) s m #[(.long q2_0), (.long q2_1)] below meth c s₁ [] 0 0 := Stand.of_body Bd
  have e0 : s₁.heap = h0 := by rw [← hh, Bd.state]; rfl
  have N0 := Fr.nil n0
  have Zr : h0.size ≤ h0.size := Nat.le_refl _
  have pre0 : ∀ t, Steps p.tables e below (s₁.setTop (mkF m 0 #[.val (.long q2_0), .second, .val (.long q2_1), .second] [])) t → Steps p.tables e below (s₁.setTop (entryFrame m #[(.long q2_0), (.long q2_1)] 4)) t := fun t k => castTop (own_ef2 m q2_0 q2_1) k
  obtain ⟨Tj2_1, lj2_1, Xj2_1, Nj2_1, ej2_1, stj2_1⟩ : ∃ (T' : State) (l' : List Loc), Stand p l e ({ frames := 0, cells := 0, slots := 0, locals := 0 } : Room) s m #[(.long q2_0), (.long q2_1)] below meth c T' l' 0 0 ∧ Fr n0 l' ∧ T'.heap = h0 ∧ ∀ target, Steps p.tables e below (T'.setTop (mkF m 11 #[.val (.long q2_0), .second, .val (.long q2_1), .second] [(.long (own_j2_0 q2_0 q2_1))])) target → Steps p.tables e below (s₁.setTop (mkF m 3 #[.val (.long q2_0), .second, .val (.long q2_1), .second] [(.int (XT.cmpL q2_0 q2_1))])) target := by
    by_cases hj2_1 : q2_0 < q2_1
    · refine ⟨_, _, X0, N0, e0, fun target kt => ?_⟩
      rw [(show (own_j2_0 q2_0 q2_1) = q2_1 from if_pos hj2_1)] at kt
      show Steps p.tables e below (s₁.setTop (mkF m 3 #[.val (.long q2_0), .second, .val (.long q2_1), .second] [(.int (XT.cmpL q2_0 q2_1))])) _
      refine XS.ifYes X0.here hx rfl (pc0 := 3) (pc' := 10) rfl (hb hby own_d2_3) rfl (XT.ll_lt_t hj2_1) (by decide) (by decide) ?_
      show Steps p.tables e below (s₁.setTop (mkF m 10 #[.val (.long q2_0), .second, .val (.long q2_1), .second] [])) _
      refine XT.lloadN X0.here hx rfl (hb hby own_d2_10) rfl ?_
      exact kt
    · refine ⟨_, _, X0, N0, e0, fun target kt => ?_⟩
      rw [(show (own_j2_0 q2_0 q2_1) = q2_0 from if_neg hj2_1)] at kt
      show Steps p.tables e below (s₁.setTop (mkF m 3 #[.val (.long q2_0), .second, .val (.long q2_1), .second] [(.int (XT.cmpL q2_0 q2_1))])) _
      refine XS.ifNo X0.here hx rfl (hb hby own_d2_3) rfl (XT.ll_lt_f hj2_1) ?_
      show Steps p.tables e below (s₁.setTop (mkF m 6 #[.val (.long q2_0), .second, .val (.long q2_1), .second] [])) _
      refine XT.lloadN X0.here hx rfl (hb hby own_d2_6) rfl ?_
      show Steps p.tables e below (s₁.setTop (mkF m 7 #[.val (.long q2_0), .second, .val (.long q2_1), .second] [(.long q2_0)])) _
      refine XS.goto X0.here hx rfl (pc0 := 7) (pc' := 11) rfl (hb hby own_d2_7) (by decide) (by decide) ?_
      exact kt
  obtain ⟨fs, hr, hrun, hended, hW, hsame⟩ := Xj2_1.leave (v := some (.long (own_j2_0 q2_0 q2_1))) (fun h => by rw [Bd.returns] at h; cases h)
  refine ⟨_, _, pre0 _ (?_), hrun, hended, _, _, rfl, ?_, ⟨_, rfl⟩, hW, hsame.mono (by decide) (by decide)⟩
  · show Steps p.tables e below (s₁.setTop (mkF m 0 #[.val (.long q2_0), .second, .val (.long q2_1), .second] [])) _
    refine XT.lloadN X0.here hx rfl (hb hby own_d2_0) rfl ?_
    show Steps p.tables e below (s₁.setTop (mkF m 1 #[.val (.long q2_0), .second, .val (.long q2_1), .second] [(.long q2_0)])) _
    refine XT.lloadN X0.here hx rfl (hb hby own_d2_1) rfl ?_
    show Steps p.tables e below (s₁.setTop (mkF m 2 #[.val (.long q2_0), .second, .val (.long q2_1), .second] [(.long q2_1), (.long q2_0)])) _
    refine XT.lcmp X0.here hx rfl (hb hby own_d2_2) rfl ?_
    show Steps p.tables e below (s₁.setTop (mkF m 3 #[.val (.long q2_0), .second, .val (.long q2_1), .second] [(.int (XT.cmpL q2_0 q2_1))])) _
    refine stj2_1 _ ?_
    show Steps p.tables e below (Tj2_1.setTop (mkF m 11 #[.val (.long q2_0), .second, .val (.long q2_1), .second] [(.long (own_j2_0 q2_0 q2_1))])) _
    jvm_step Xj2_1.here [Xj2_1.here.top, hx, (hb hby own_d2_11), Xj2_1.method', Bd.returns, narrow]
    first | (intro acts; rw [hr _ acts rfl rfl rfl]) | rw [hr _ _ rfl rfl rfl]
    exact Steps.refl _
  · show own_Q2 Z q2_0 q2_1 h0 n0 _ Tj2_1.heap _
    rw [ej2_1]
    exact ⟨rfl, Nj2_1, rfl⟩
theorem own_pn0 : plainName "java/lang/Record" = true := by first | (simp [plainName, overriddenIn]; done) | decide +kernel
theorem own_d4_0 : decode jdk_30_method_1_code 0 = .ok (.aload_n 0, 1) := by decide +kernel
theorem own_d4_1 : decode jdk_30_method_1_code 1 = .ok (.invokespecial 1, 3) := by decide +kernel
theorem own_d4_4 : decode jdk_30_method_1_code 4 = .ok (.return_, 1) := by decide +kernel
theorem own_ef4 (m : MethodId) (a4_0 : Addr) : entryFrame m #[(.ref a4_0)] 1 = mkF m 0 #[.val (.ref a4_0)] [] := by first | (simp [entryFrame, mkF, argsToLocals, Value.category]; done) | rfl
def own_Q4 (Z : State) (a4_0 : Addr) (h0 : Heap) (n0 : Nat) (v : Option Value) (h : Heap) (L : List Loc) : Prop := v = none ∧ Fr n0 L ∧ h = h0
set_option maxRecDepth 65536 in
set_option maxHeartbeats 40000000 in
theorem own_rm4 (l : Launch) (Z : State) (a0 : Array Value) (hw : ∀ d ∈ tables_1, d.before a0 Z = true) (ws : List Jvm.Cond) (a4_0 : Addr) (h0 : Heap) (n0 : Nat) (Z0 : n0 ≤ h0.size) :
    MetFree l (⟨"java/lang/Record", "<init>", "()V"⟩ : MethodName) (head1 (Jvm.Cond.code (⟨"java/lang/Record", "<init>", "()V"⟩ : MethodName) jdk_30_method_1_code 1 none :: ws) ({ frames := 1, cells := 0, slots := 0, locals := 12 } : Room)) (fun a U => a = #[(.ref a4_0)] ∧ Z.Warmed39 U.vm ∧ U.heap = h0) (fun _ _ _ _ _ => True) (fun _ U o U' => ∃ v L, o = .returned v ∧ own_Q4 Z a4_0 h0 n0 v U'.heap L ∧ FrameEnd U o U' L ({ frames := 1, cells := 0, slots := 0, locals := 12 } : Room).cells ({ frames := 1, cells := 0, slots := 0, locals := 12 } : Room).slots) := by
  refine MetFree.of_bodySF (plainFor_of_name own_pn0) hisR ?_
  intro p e s m args below meth c s₁ Bd hml0 hP hK
  obtain ⟨rfl, hZ, hh⟩ := hP
  have hx := Bd.exec
  have hby := Bd.bytes
  have hml : c.maxLocals = 1 := hml0
  have hown : s.vm.findClass "java/lang/Record" = some m.cls := findClass_of_methodNamed Bd.named
  have hnm := (name_of_methodNamed Bd.named Bd.method).1
  have X0 : Stand p l e ({ frames := 1, cells := 0, slots := 0, locals := 12 } : Room) s m #[(.ref a4_0)] below meth c s₁ [] 0 0 := Stand.of_body Bd
  have e0 : s₁.heap = h0 := by rw [← hh, Bd.state]; rfl
  have N0 := Fr.nil n0
  have Zr : h0.size ≤ h0.size := Nat.le_refl _
  have pre0 : ∀ t, Steps p.tables e below (s₁.setTop (mkF m 0 #[.val (.ref a4_0)] [])) t → Steps p.tables e below (s₁.setTop (entryFrame m #[(.ref a4_0)] 1)) t := fun t k => castTop (own_ef4 m a4_0) k
  obtain ⟨Tn4_1, Xn4_1, en4_1, stn4_1⟩ := initO X0 hx hZ hown (hw _ (List.mem_of_getElem? (i := 21) rfl)) (hw _ (List.mem_of_getElem? (i := 22) rfl)) (hw _ (List.mem_of_getElem? (i := 23) rfl)) e0 (g := (mkF m 1 #[.val (.ref a4_0)] [(.ref a4_0)])) rfl (by rw [hml]; rfl) rfl (hb hby own_d4_1) (by decide) (W := 0) (by show 2 * 0 + _ ≤ _; exact Nat.le_of_eq rfl) (by decide)
  obtain ⟨fs, hr, hrun, hended, hW, hsame⟩ := Xn4_1.leave (v := none) (fun _ => rfl)
  refine ⟨_, _, pre0 _ (?_), hrun, hended, _, _, rfl, ?_, ⟨_, rfl⟩, hW, hsame.mono (by decide) (by decide)⟩
  · show Steps p.tables e below (s₁.setTop (mkF m 0 #[.val (.ref a4_0)] [])) _
    refine XS.aloadN X0.here hx rfl (hb hby own_d4_0) rfl rfl ?_
    show Steps p.tables e below (s₁.setTop (mkF m 1 #[.val (.ref a4_0)] [(.ref a4_0)])) _
    refine stn4_1 _ ?_
    show Steps p.tables e below (Tn4_1.setTop (mkF m 4 #[.val (.ref a4_0)] [])) _
    exact Xn4_1.returnOut hx Bd.returns (hb hby own_d4_4) hr
  · show own_Q4 Z a4_0 h0 n0 _ Tn4_1.heap _
    rw [en4_1]
    exact ⟨rfl, N0, rfl⟩
theorem own_pn1 : plainName "com/example/surepath/surepath/Interval" = true := by first | (simp [plainName, overriddenIn]; done) | decide +kernel
theorem own_pd0 : parseMethodDescriptor "()V" = some ⟨[], none⟩ := by decide +kernel
theorem own_d3_0 : decode prog_15_method_1_code 0 = .ok (.aload_n 0, 1) := by decide +kernel
theorem own_d3_1 : decode prog_15_method_1_code 1 = .ok (.invokespecial 1, 3) := by decide +kernel
theorem own_d3_4 : decode prog_15_method_1_code 4 = .ok (.iconst 2, 1) := by decide +kernel
theorem own_d3_5 : decode prog_15_method_1_code 5 = .ok (.newarray .double, 2) := by decide +kernel
theorem own_d3_7 : decode prog_15_method_1_code 7 = .ok (.dup, 1) := by decide +kernel
theorem own_d3_8 : decode prog_15_method_1_code 8 = .ok (.iconst 0, 1) := by decide +kernel
theorem own_d3_9 : decode prog_15_method_1_code 9 = .ok (.dload_n 1, 1) := by decide +kernel
theorem own_d3_10 : decode prog_15_method_1_code 10 = .ok (.dastore, 1) := by decide +kernel
theorem own_d3_11 : decode prog_15_method_1_code 11 = .ok (.dup, 1) := by decide +kernel
theorem own_d3_12 : decode prog_15_method_1_code 12 = .ok (.iconst 1, 1) := by decide +kernel
theorem own_d3_13 : decode prog_15_method_1_code 13 = .ok (.dload_n 3, 1) := by decide +kernel
theorem own_d3_14 : decode prog_15_method_1_code 14 = .ok (.dastore, 1) := by decide +kernel
theorem own_d3_15 : decode prog_15_method_1_code 15 = .ok (.astore 5, 2) := by decide +kernel
theorem own_d3_17 : decode prog_15_method_1_code 17 = .ok (.aload 5, 2) := by decide +kernel
theorem own_d3_19 : decode prog_15_method_1_code 19 = .ok (.arraylength, 1) := by decide +kernel
theorem own_d3_20 : decode prog_15_method_1_code 20 = .ok (.istore 6, 2) := by decide +kernel
theorem own_d3_22 : decode prog_15_method_1_code 22 = .ok (.iconst 0, 1) := by decide +kernel
theorem own_d3_23 : decode prog_15_method_1_code 23 = .ok (.istore 7, 2) := by decide +kernel
theorem own_d3_25 : decode prog_15_method_1_code 25 = .ok (.iload 7, 2) := by decide +kernel
theorem own_d3_27 : decode prog_15_method_1_code 27 = .ok (.iload 6, 2) := by decide +kernel
theorem own_d3_29 : decode prog_15_method_1_code 29 = .ok (.if_icmp .ge 47, 3) := by decide +kernel
theorem own_d3_32 : decode prog_15_method_1_code 32 = .ok (.aload 5, 2) := by decide +kernel
theorem own_d3_34 : decode prog_15_method_1_code 34 = .ok (.iload 7, 2) := by decide +kernel
theorem own_d3_36 : decode prog_15_method_1_code 36 = .ok (.daload, 1) := by decide +kernel
theorem own_d3_37 : decode prog_15_method_1_code 37 = .ok (.dstore 8, 2) := by decide +kernel
theorem own_d3_39 : decode prog_15_method_1_code 39 = .ok (.dload 8, 2) := by decide +kernel
theorem own_d3_41 : decode prog_15_method_1_code 41 = .ok (.dconst 0, 1) := by decide +kernel
theorem own_d3_42 : decode prog_15_method_1_code 42 = .ok (.dcmp .l, 1) := by decide +kernel
theorem own_d3_43 : decode prog_15_method_1_code 43 = .ok (.ifCond .lt 12, 3) := by decide +kernel
theorem own_d3_46 : decode prog_15_method_1_code 46 = .ok (.dload 8, 2) := by decide +kernel
theorem own_d3_48 : decode prog_15_method_1_code 48 = .ok (.ldc2_w 9, 3) := by decide +kernel
theorem own_d3_51 : decode prog_15_method_1_code 51 = .ok (.dcmp .g, 1) := by decide +kernel
theorem own_d3_52 : decode prog_15_method_1_code 52 = .ok (.ifCond .lt 18, 3) := by decide +kernel
theorem own_d3_70 : decode prog_15_method_1_code 70 = .ok (.iinc 7 1, 3) := by decide +kernel
theorem own_d3_73 : decode prog_15_method_1_code 73 = .ok (.goto (-48), 3) := by decide +kernel
theorem own_d3_76 : decode prog_15_method_1_code 76 = .ok (.dload_n 1, 1) := by decide +kernel
theorem own_d3_77 : decode prog_15_method_1_code 77 = .ok (.dload_n 3, 1) := by decide +kernel
theorem own_d3_78 : decode prog_15_method_1_code 78 = .ok (.dcmp .l, 1) := by decide +kernel
theorem own_d3_79 : decode prog_15_method_1_code 79 = .ok (.ifCond .le 18, 3) := by decide +kernel
theorem own_d3_97 : decode prog_15_method_1_code 97 = .ok (.aload_n 0, 1) := by decide +kernel
theorem own_d3_98 : decode prog_15_method_1_code 98 = .ok (.dload_n 1, 1) := by decide +kernel
theorem own_d3_99 : decode prog_15_method_1_code 99 = .ok (.putfield 23, 3) := by decide +kernel
theorem own_d3_102 : decode prog_15_method_1_code 102 = .ok (.aload_n 0, 1) := by decide +kernel
theorem own_d3_103 : decode prog_15_method_1_code 103 = .ok (.dload_n 3, 1) := by decide +kernel
theorem own_d3_104 : decode prog_15_method_1_code 104 = .ok (.putfield 29, 3) := by decide +kernel
theorem own_d3_107 : decode prog_15_method_1_code 107 = .ok (.return_, 1) := by decide +kernel
theorem own_ef3 (m : MethodId) (a3_0 : Addr) (d3_1 : UInt64) (d3_2 : UInt64) : entryFrame m #[(.ref a3_0), (.double d3_1), (.double d3_2)] 10 = mkF m 0 #[.val (.ref a3_0), .val (.double d3_1), .second, .val (.double d3_2), .second, .unset, .unset, .unset, .unset, .unset] [] := by first | (simp [entryFrame, mkF, argsToLocals, Value.category]; done) | rfl
def own_Q3 (Z : State) (a3_0 : Addr) (d3_1 : UInt64) (d3_2 : UInt64) (w_lower_a3_0 : Value) (w_upper_a3_0 : Value) (h0 : Heap) (n0 : Nat) (v : Option Value) (h : Heap) (L : List Loc) : Prop := v = none ∧ Fr n0 L ∧ Keep h0 h [a3_0] ∧ Exa Z h a3_0 "com/example/surepath/surepath/Interval" ∧ Fld Z h a3_0 "com/example/surepath/surepath/Interval" "lower" "D" (.double d3_1) ∧ Fld Z h a3_0 "com/example/surepath/surepath/Interval" "upper" "D" (.double d3_2)
set_option maxRecDepth 65536 in
set_option maxHeartbeats 40000000 in
theorem own_rm3 (l : Launch) (Z : State) (a0 : Array Value) (hw : ∀ d ∈ tables_1, d.before a0 Z = true) (ws : List Jvm.Cond) (a3_0 : Addr) (d3_1 : UInt64) (d3_2 : UInt64) (w_lower_a3_0 : Value) (w_upper_a3_0 : Value) (h0 : Heap) (n0 : Nat) (Z0 : n0 ≤ h0.size) (E_a3_0 : Exa Z h0 a3_0 "com/example/surepath/surepath/Interval") (F_lower_a3_0 : Fld Z h0 a3_0 "com/example/surepath/surepath/Interval" "lower" "D" w_lower_a3_0) (g_a3_0 : n0 ≤ a3_0) (F_upper_a3_0 : Fld Z h0 a3_0 "com/example/surepath/surepath/Interval" "upper" "D" w_upper_a3_0) (hc43 : ¬ ((cmpValue (FP.dcmp d3_1 (0 : UInt64)) .l) < (0 : Int32))) (hc52 : (cmpValue (FP.dcmp d3_1 (9218868437227405312 : UInt64)) .g) < (0 : Int32)) (hc43_2 : ¬ ((cmpValue (FP.dcmp d3_2 (0 : UInt64)) .l) < (0 : Int32))) (hc52_2 : (cmpValue (FP.dcmp d3_2 (9218868437227405312 : UInt64)) .g) < (0 : Int32)) (hc79 : ¬ ((0 : Int32) < (cmpValue (FP.dcmp d3_1 d3_2) .l))) :
    MetFree l (⟨"com/example/surepath/surepath/Interval", "<init>", "(DD)V"⟩ : MethodName) (head1 (Jvm.Cond.code (⟨"com/example/surepath/surepath/Interval", "<init>", "(DD)V"⟩ : MethodName) prog_15_method_1_code 10 none :: ws) ({ frames := 2, cells := 1, slots := 2, locals := 24 } : Room)) (fun a U => a = #[(.ref a3_0), (.double d3_1), (.double d3_2)] ∧ Z.Warmed39 U.vm ∧ U.heap = h0) (fun _ _ _ _ _ => True) (fun _ U o U' => ∃ v L, o = .returned v ∧ own_Q3 Z a3_0 d3_1 d3_2 w_lower_a3_0 w_upper_a3_0 h0 n0 v U'.heap L ∧ FrameEnd U o U' L ({ frames := 2, cells := 1, slots := 2, locals := 24 } : Room).cells ({ frames := 2, cells := 1, slots := 2, locals := 24 } : Room).slots) := by
  refine MetFree.of_bodySF (plainFor_of_name own_pn1) hisR ?_
  intro p e s m args below meth c s₁ Bd hml0 hP hK
  obtain ⟨rfl, hZ, hh⟩ := hP
  have hx := Bd.exec
  have hby := Bd.bytes
  have hml : c.maxLocals = 10 := hml0
  have hown : s.vm.findClass "com/example/surepath/surepath/Interval" = some m.cls := findClass_of_methodNamed Bd.named
  have hnm := (name_of_methodNamed Bd.named Bd.method).1
  have X0 : Stand p l e ({ frames := 2, cells := 1, slots := 2, locals := 24 } : Room) s m #[(.ref a3_0), (.double d3_1), (.double d3_2)] below meth c s₁ [] 0 0 := Stand.of_body Bd
  have e0 : s₁.heap = h0 := by rw [← hh, Bd.state]; rfl
  have N0 := Fr.nil n0
  have Zr : h0.size ≤ h0.size := Nat.le_refl _
  have pre0 : ∀ t, Steps p.tables e below (s₁.setTop (mkF m 0 #[.val (.ref a3_0), .val (.double d3_1), .second, .val (.double d3_2), .second, .unset, .unset, .unset, .unset, .unset] [])) t → Steps p.tables e below (s₁.setTop (entryFrame m #[(.ref a3_0), (.double d3_1), (.double d3_2)] 10)) t := fun t k => castTop (own_ef3 m a3_0 d3_1 d3_2) k
  obtain ⟨_, _, ⟨Tk3_1, Lk3_1, kk3_1, nk3_1⟩, -, Xk3_1, ⟨Lck3_1, hQk3_1, lk3_1, yk3_1, zk3_1⟩, stk3_1⟩ := X0.specialBack hx (y := (⟨"java/lang/Record", "<init>", "()V"⟩ : MethodName)) rfl hown (mvT hZ (hw _ (List.mem_of_getElem? (i := 16) rfl))) (mvT hZ (hw _ (List.mem_of_getElem? (i := 17) rfl))) (mvT hZ (hw _ (List.mem_of_getElem? (i := 20) rfl))) (by decide) (backOf (W := 0) (own_rm4 l Z a0 hw [] a3_0 h0 n0 Z0) hZ (hw _ (List.mem_of_getElem? (i := 20) rfl)) (hw _ (List.mem_of_getElem? (i := 19) rfl)) (by decide) (by decide)) (g := (mkF m 1 #[.val (.ref a3_0), .val (.double d3_1), .second, .val (.double d3_2), .second, .unset, .unset, .unset, .unset, .unset] [(.ref a3_0)])) rfl (by rw [hml]; rfl) (Steps.refl _) (a := a3_0) (argsL := []) (rest := []) (lenOf own_pd0 rfl) rfl (by show 2 * 0 + _ ≤ _; exact Nat.le_of_eq rfl) (hb hby own_d3_1) (fun _ _ => ⟨rfl, e0, (by decide : 0 + 0 ≤ _), (by decide : 0 + 0 ≤ _)⟩)
  dsimp only [Pt.U, Pt.locs, Pt.cells, Pt.slots] at Xk3_1 lk3_1 yk3_1 zk3_1 stk3_1 hQk3_1
  subst lk3_1 yk3_1 zk3_1
  obtain ⟨rfl, Nk3_1q, ek3_1⟩ := hQk3_1
  have Nk3_1 := Fr.app N0 Nk3_1q
  obtain ⟨Tn3_2, hn3_2, kn3_2, Xn3_2, en3_2, En3_2, An3_2, stn3_2⟩ := newP Xk3_1 hx hZ (hw _ (List.mem_of_getElem? (i := 24) rfl)) ek3_1 (g := (mkF m 5 #[.val (.ref a3_0), .val (.double d3_1), .second, .val (.double d3_2), .second, .unset, .unset, .unset, .unset, .unset] [(.int (2 : Int32))])) rfl (hb hby own_d3_5) rfl (by decide) (cap := 2) (by decide) (by decide) (by decide) (by decide)
  obtain ⟨bn3_2, gn3_2⟩ : ∃ z, z = h0.size := ⟨_, rfl⟩
  rw [← gn3_2] at An3_2 stn3_2
  have g_bn3_2 : n0 ≤ bn3_2 := Nat.le_trans Z0 (Nat.le_of_eq gn3_2.symm)
  have sz_bn3_2 : h0.size ≤ bn3_2 := Nat.le_trans Zr (Nat.le_of_eq gn3_2.symm)
  have sz3_3 : h0.size ≤ hn3_2.size := Nat.le_trans Zr En3_2.1
  have V_bn3_2 : Arv Z hn3_2 bn3_2 kn3_2 .double (2 : Int32) [(.double (0 : UInt64)), (.double (0 : UInt64))] (.double (0 : UInt64)) := (Arv.new An3_2 (by decide)).pad (pad_rep [] (.double (0 : UInt64)) 2)
  have Oo3_4 := V_bn3_2
  obtain ⟨clo3_4, Aro3_4, qo3_4, So3_4, No3_4, Ho3_4, Go3_4⟩ := Oo3_4
  have hino3_4 : ¬ ((0 : Int32) < 0 ∨ clo3_4.slots.size ≤ ((0 : Int32)).toNatClampNeg) := inb_of So3_4 ⟨by decide, by decide⟩
  obtain ⟨To3_4, ho3_4, Xo3_4, eo3_4, Wo3_4, sto3_4⟩ := stD Xn3_2 hx hZ en3_2 Aro3_4 (j := (0 : Int32)) hino3_4 (g := (mkF m 10 #[.val (.ref a3_0), .val (.double d3_1), .second, .val (.double d3_2), .second, .unset, .unset, .unset, .unset, .unset] [(.double d3_1), (.int (0 : Int32)), (.ref bn3_2), (.ref bn3_2)])) rfl rfl (hb hby own_d3_10)
  have Vwo3_4 : Arv Z ho3_4 bn3_2 kn3_2 .double (2 : Int32) [(.double d3_1), (.double (0 : UInt64))] (.double (0 : UInt64)) := Arv.set Aro3_4 qo3_4 So3_4 No3_4 Ho3_4 Go3_4 rfl Wo3_4 0 rfl (Nat.le_of_ble_eq_true rfl)
  have sz3_5 : h0.size ≤ ho3_4.size := Nat.le_trans sz3_3 (Nat.le_of_eq Wo3_4.size.symm)
  have Nfo3_4 := Fr.snoc Xo3_4 Nk3_1 g_bn3_2
  have Oo3_6 := Vwo3_4
  obtain ⟨clo3_6, Aro3_6, qo3_6, So3_6, No3_6, Ho3_6, Go3_6⟩ := Oo3_6
  have hino3_6 : ¬ ((1 : Int32) < 0 ∨ clo3_6.slots.size ≤ ((1 : Int32)).toNatClampNeg) := inb_of So3_6 ⟨by decide, by decide⟩
  obtain ⟨To3_6, ho3_6, Xo3_6, eo3_6, Wo3_6, sto3_6⟩ := stD Xo3_4 hx hZ eo3_4 Aro3_6 (j := (1 : Int32)) hino3_6 (g := (mkF m 14 #[.val (.ref a3_0), .val (.double d3_1), .second, .val (.double d3_2), .second, .unset, .unset, .unset, .unset, .unset] [(.double d3_2), (.int (1 : Int32)), (.ref bn3_2), (.ref bn3_2)])) rfl rfl (hb hby own_d3_14)
  have Vwo3_6 : Arv Z ho3_6 bn3_2 kn3_2 .double (2 : Int32) [(.double d3_1), (.double d3_2)] (.double (0 : UInt64)) := Arv.set Aro3_6 qo3_6 So3_6 No3_6 Ho3_6 Go3_6 rfl Wo3_6 1 rfl (Nat.le_of_ble_eq_true rfl)
  have sz3_7 : h0.size ≤ ho3_6.size := Nat.le_trans sz3_5 (Nat.le_of_eq Wo3_6.size.symm)
  have Nfo3_6 := Fr.snoc Xo3_6 Nfo3_4 g_bn3_2
  have Oo3_8 := Vwo3_6
  obtain ⟨clo3_8, Aro3_8, qo3_8, So3_8, No3_8, Ho3_8, Go3_8⟩ := Oo3_8
  have Oo3_9 := Vwo3_6
  obtain ⟨clo3_9, Aro3_9, qo3_9, So3_9, No3_9, Ho3_9, Go3_9⟩ := Oo3_9
  have hino3_9 : ¬ ((0 : Int32) < 0 ∨ clo3_9.slots.size ≤ ((0 : Int32)).toNatClampNeg) := inb_of So3_9 ⟨by decide, by decide⟩
  have hato3_9 : clo3_9.slots[((0 : Int32)).toNatClampNeg]? = some (.double d3_1) := Ho3_9.at hino3_9 rfl
  have Oo3_10 := Vwo3_6
  obtain ⟨clo3_10, Aro3_10, qo3_10, So3_10, No3_10, Ho3_10, Go3_10⟩ := Oo3_10
  have hino3_10 : ¬ ((1 : Int32) < 0 ∨ clo3_10.slots.size ≤ ((1 : Int32)).toNatClampNeg) := inb_of So3_10 ⟨by decide, by decide⟩
  have hato3_10 : clo3_10.slots[((1 : Int32)).toNatClampNeg]? = some (.double d3_2) := Ho3_10.at hino3_10 rfl
  have F3_11 := (((E_a3_0.ext En3_2).wr Wo3_4).wr Wo3_6)
  have ne3_12 : a3_0 ≠ bn3_2 := (Nat.ne_of_lt (Nat.lt_of_lt_of_le F_lower_a3_0.lt (Nat.le_of_eq gn3_2.symm)))
  have F3_13 := (((F_lower_a3_0.ext En3_2).other Wo3_4 (Or.inl ne3_12)).other Wo3_6 (Or.inl ne3_12))
  obtain ⟨Tn3_14, hn3_14, Xn3_14, en3_14, Wn3_14, stn3_14⟩ := putF Xo3_6 hx hZ hown (host := "") (Or.inl (hw _ (List.mem_of_getElem? (i := 26) rfl))) Via.refl eo3_6 F3_13 F3_11 (Or.inr ⟨(hw _ (List.mem_of_getElem? (i := 27) rfl)), rfl, hnm⟩) (hw _ (List.mem_of_getElem? (i := 11) rfl)) (ty := .double) (by decide) rfl rfl (g := (mkF m 99 #[.val (.ref a3_0), .val (.double d3_1), .second, .val (.double d3_2), .second, .val (.ref bn3_2), .val (.int (2 : Int32)), .val (.int (2 : Int32)), .val (.double d3_2), .second] [(.double d3_1), (.ref a3_0)])) rfl rfl (hb hby own_d3_99)
  have Fwn3_14 : Fld Z hn3_14 a3_0 "com/example/surepath/surepath/Interval" "lower" "D" (.double d3_1) := F3_13.same Wn3_14
  have sz3_15 : h0.size ≤ hn3_14.size := Nat.le_trans sz3_7 (Nat.le_of_eq Wn3_14.size.symm)
  have Nn3_14 := Fr.snoc Xn3_14 Nfo3_6 g_a3_0
  have F3_16 := (F3_11.wr Wn3_14)
  have F3_17 := ((((F_upper_a3_0.ext En3_2).other Wo3_4 (Or.inl ne3_12)).other Wo3_6 (Or.inl ne3_12)).other Wn3_14 (Or.inr (slot_ne (Or.inr (hw _ (List.mem_of_getElem? (i := 29) rfl))) (Or.inr (hw _ (List.mem_of_getElem? (i := 27) rfl))) (by decide) (t := .double) (t' := .double) (by decide) (by decide))))
  obtain ⟨Tn3_18, hn3_18, Xn3_18, en3_18, Wn3_18, stn3_18⟩ := putF Xn3_14 hx hZ hown (host := "") (Or.inl (hw _ (List.mem_of_getElem? (i := 28) rfl))) Via.refl en3_14 F3_17 F3_16 (Or.inr ⟨(hw _ (List.mem_of_getElem? (i := 29) rfl)), rfl, hnm⟩) (hw _ (List.mem_of_getElem? (i := 11) rfl)) (ty := .double) (by decide) rfl rfl (g := (mkF m 104 #[.val (.ref a3_0), .val (.double d3_1), .second, .val (.double d3_2), .second, .val (.ref bn3_2), .val (.int (2 : Int32)), .val (.int (2 : Int32)), .val (.double d3_2), .second] [(.double d3_2), (.ref a3_0)])) rfl rfl (hb hby own_d3_104)
  have Fwn3_18 : Fld Z hn3_18 a3_0 "com/example/surepath/surepath/Interval" "upper" "D" (.double d3_2) := F3_17.same Wn3_18
  have sz3_19 : h0.size ≤ hn3_18.size := Nat.le_trans sz3_15 (Nat.le_of_eq Wn3_18.size.symm)
  have Nn3_18 := Fr.snoc Xn3_18 Nn3_14 g_a3_0
  obtain ⟨fs, hr, hrun, hended, hW, hsame⟩ := Xn3_18.leave (v := none) (fun _ => rfl)
  refine ⟨_, _, pre0 _ (?_), hrun, hended, _, _, rfl, ?_, ⟨_, rfl⟩, hW, hsame.mono (by decide) (by decide)⟩
  · show Steps p.tables e below (s₁.setTop (mkF m 0 #[.val (.ref a3_0), .val (.double d3_1), .second, .val (.double d3_2), .second, .unset, .unset, .unset, .unset, .unset] [])) _
    refine XS.aloadN X0.here hx rfl (hb hby own_d3_0) rfl rfl ?_
    show Steps p.tables e below (s₁.setTop (mkF m 1 #[.val (.ref a3_0), .val (.double d3_1), .second, .val (.double d3_2), .second, .unset, .unset, .unset, .unset, .unset] [(.ref a3_0)])) _
    refine stk3_1.trans ?_
    show Steps p.tables e below (Tk3_1.setTop (mkF m 4 #[.val (.ref a3_0), .val (.double d3_1), .second, .val (.double d3_2), .second, .unset, .unset, .unset, .unset, .unset] [])) _
    refine XS.iconst Xk3_1.here hx rfl (hb hby own_d3_4) ?_
    show Steps p.tables e below (Tk3_1.setTop (mkF m 5 #[.val (.ref a3_0), .val (.double d3_1), .second, .val (.double d3_2), .second, .unset, .unset, .unset, .unset, .unset] [(.int (2 : Int32))])) _
    refine stn3_2 _ ?_
    show Steps p.tables e below (Tn3_2.setTop (mkF m 7 #[.val (.ref a3_0), .val (.double d3_1), .second, .val (.double d3_2), .second, .unset, .unset, .unset, .unset, .unset] [(.ref bn3_2)])) _
    refine XS.dup Xn3_2.here hx rfl (hb hby own_d3_7) rfl rfl ?_
    show Steps p.tables e below (Tn3_2.setTop (mkF m 8 #[.val (.ref a3_0), .val (.double d3_1), .second, .val (.double d3_2), .second, .unset, .unset, .unset, .unset, .unset] [(.ref bn3_2), (.ref bn3_2)])) _
    refine XS.iconst Xn3_2.here hx rfl (hb hby own_d3_8) ?_
    show Steps p.tables e below (Tn3_2.setTop (mkF m 9 #[.val (.ref a3_0), .val (.double d3_1), .second, .val (.double d3_2), .second, .unset, .unset, .unset, .unset, .unset] [(.int (0 : Int32)), (.ref bn3_2), (.ref bn3_2)])) _
    refine XS.dloadN Xn3_2.here hx rfl (hb hby own_d3_9) rfl ?_
    show Steps p.tables e below (Tn3_2.setTop (mkF m 10 #[.val (.ref a3_0), .val (.double d3_1), .second, .val (.double d3_2), .second, .unset, .unset, .unset, .unset, .unset] [(.double d3_1), (.int (0 : Int32)), (.ref bn3_2), (.ref bn3_2)])) _
    refine sto3_4 _ ?_
    show Steps p.tables e below (To3_4.setTop (mkF m 11 #[.val (.ref a3_0), .val (.double d3_1), .second, .val (.double d3_2), .second, .unset, .unset, .unset, .unset, .unset] [(.ref bn3_2)])) _
    refine XS.dup Xo3_4.here hx rfl (hb hby own_d3_11) rfl rfl ?_
    show Steps p.tables e below (To3_4.setTop (mkF m 12 #[.val (.ref a3_0), .val (.double d3_1), .second, .val (.double d3_2), .second, .unset, .unset, .unset, .unset, .unset] [(.ref bn3_2), (.ref bn3_2)])) _
    refine XS.iconst Xo3_4.here hx rfl (hb hby own_d3_12) ?_
    show Steps p.tables e below (To3_4.setTop (mkF m 13 #[.val (.ref a3_0), .val (.double d3_1), .second, .val (.double d3_2), .second, .unset, .unset, .unset, .unset, .unset] [(.int (1 : Int32)), (.ref bn3_2), (.ref bn3_2)])) _
    refine XS.dloadN Xo3_4.here hx rfl (hb hby own_d3_13) rfl ?_
    show Steps p.tables e below (To3_4.setTop (mkF m 14 #[.val (.ref a3_0), .val (.double d3_1), .second, .val (.double d3_2), .second, .unset, .unset, .unset, .unset, .unset] [(.double d3_2), (.int (1 : Int32)), (.ref bn3_2), (.ref bn3_2)])) _
    refine sto3_6 _ ?_
    show Steps p.tables e below (To3_6.setTop (mkF m 15 #[.val (.ref a3_0), .val (.double d3_1), .second, .val (.double d3_2), .second, .unset, .unset, .unset, .unset, .unset] [(.ref bn3_2)])) _
    refine XS.astore Xo3_6.here hx rfl (hb hby own_d3_15) rfl rfl (l' := #[.val (.ref a3_0), .val (.double d3_1), .second, .val (.double d3_2), .second, .val (.ref bn3_2), .unset, .unset, .unset, .unset]) rfl ?_
    show Steps p.tables e below (To3_6.setTop (mkF m 17 #[.val (.ref a3_0), .val (.double d3_1), .second, .val (.double d3_2), .second, .val (.ref bn3_2), .unset, .unset, .unset, .unset] [])) _
    refine XS.aload Xo3_6.here hx rfl (hb hby own_d3_17) rfl rfl ?_
    show Steps p.tables e below (To3_6.setTop (mkF m 19 #[.val (.ref a3_0), .val (.double d3_1), .second, .val (.double d3_2), .second, .val (.ref bn3_2), .unset, .unset, .unset, .unset] [(.ref bn3_2)])) _
    refine Xo3_6.arraylength hx (by rw [eo3_6]; exact Aro3_8.1) (State.isArrayOf_alike hZ.alike Aro3_8.2.1) (g := (mkF m 19 #[.val (.ref a3_0), .val (.double d3_1), .second, .val (.double d3_2), .second, .val (.ref bn3_2), .unset, .unset, .unset, .unset] [(.ref bn3_2)])) rfl rfl (hb hby own_d3_19) _ ?_
    rw [len_of So3_8 No3_8]
    show Steps p.tables e below (To3_6.setTop (mkF m 20 #[.val (.ref a3_0), .val (.double d3_1), .second, .val (.double d3_2), .second, .val (.ref bn3_2), .unset, .unset, .unset, .unset] [(.int (2 : Int32))])) _
    refine XS.istore Xo3_6.here hx rfl (hb hby own_d3_20) rfl (l' := #[.val (.ref a3_0), .val (.double d3_1), .second, .val (.double d3_2), .second, .val (.ref bn3_2), .val (.int (2 : Int32)), .unset, .unset, .unset]) rfl ?_
    show Steps p.tables e below (To3_6.setTop (mkF m 22 #[.val (.ref a3_0), .val (.double d3_1), .second, .val (.double d3_2), .second, .val (.ref bn3_2), .val (.int (2 : Int32)), .unset, .unset, .unset] [])) _
    refine XS.iconst Xo3_6.here hx rfl (hb hby own_d3_22) ?_
    show Steps p.tables e below (To3_6.setTop (mkF m 23 #[.val (.ref a3_0), .val (.double d3_1), .second, .val (.double d3_2), .second, .val (.ref bn3_2), .val (.int (2 : Int32)), .unset, .unset, .unset] [(.int (0 : Int32))])) _
    refine XS.istore Xo3_6.here hx rfl (hb hby own_d3_23) rfl (l' := #[.val (.ref a3_0), .val (.double d3_1), .second, .val (.double d3_2), .second, .val (.ref bn3_2), .val (.int (2 : Int32)), .val (.int (0 : Int32)), .unset, .unset]) rfl ?_
    show Steps p.tables e below (To3_6.setTop (mkF m 25 #[.val (.ref a3_0), .val (.double d3_1), .second, .val (.double d3_2), .second, .val (.ref bn3_2), .val (.int (2 : Int32)), .val (.int (0 : Int32)), .unset, .unset] [])) _
    refine XS.iload Xo3_6.here hx rfl (hb hby own_d3_25) rfl ?_
    show Steps p.tables e below (To3_6.setTop (mkF m 27 #[.val (.ref a3_0), .val (.double d3_1), .second, .val (.double d3_2), .second, .val (.ref bn3_2), .val (.int (2 : Int32)), .val (.int (0 : Int32)), .unset, .unset] [(.int (0 : Int32))])) _
    refine XS.iload Xo3_6.here hx rfl (hb hby own_d3_27) rfl ?_
    show Steps p.tables e below (To3_6.setTop (mkF m 29 #[.val (.ref a3_0), .val (.double d3_1), .second, .val (.double d3_2), .second, .val (.ref bn3_2), .val (.int (2 : Int32)), .val (.int (0 : Int32)), .unset, .unset] [(.int (2 : Int32)), (.int (0 : Int32))])) _
    refine XS.icmpNo Xo3_6.here hx rfl (hb hby own_d3_29) rfl (XT.ii_ge_f (by decide : (0 : Int32) < (2 : Int32))) ?_
    show Steps p.tables e below (To3_6.setTop (mkF m 32 #[.val (.ref a3_0), .val (.double d3_1), .second, .val (.double d3_2), .second, .val (.ref bn3_2), .val (.int (2 : Int32)), .val (.int (0 : Int32)), .unset, .unset] [])) _
    refine XS.aload Xo3_6.here hx rfl (hb hby own_d3_32) rfl rfl ?_
    show Steps p.tables e below (To3_6.setTop (mkF m 34 #[.val (.ref a3_0), .val (.double d3_1), .second, .val (.double d3_2), .second, .val (.ref bn3_2), .val (.int (2 : Int32)), .val (.int (0 : Int32)), .unset, .unset] [(.ref bn3_2)])) _
    refine XS.iload Xo3_6.here hx rfl (hb hby own_d3_34) rfl ?_
    show Steps p.tables e below (To3_6.setTop (mkF m 36 #[.val (.ref a3_0), .val (.double d3_1), .second, .val (.double d3_2), .second, .val (.ref bn3_2), .val (.int (2 : Int32)), .val (.int (0 : Int32)), .unset, .unset] [(.int (0 : Int32)), (.ref bn3_2)])) _
    refine Xo3_6.daload hx (j := (0 : Int32)) (v := (.double d3_1)) (by rw [eo3_6]; exact Aro3_9.1) (State.isArrayOf_alike hZ.alike Aro3_9.2.1) Aro3_9.2.2 hino3_9 hato3_9 (g := (mkF m 36 #[.val (.ref a3_0), .val (.double d3_1), .second, .val (.double d3_2), .second, .val (.ref bn3_2), .val (.int (2 : Int32)), .val (.int (0 : Int32)), .unset, .unset] [(.int (0 : Int32)), (.ref bn3_2)])) rfl rfl (hb hby own_d3_36) _ ?_
    show Steps p.tables e below (To3_6.setTop (mkF m 37 #[.val (.ref a3_0), .val (.double d3_1), .second, .val (.double d3_2), .second, .val (.ref bn3_2), .val (.int (2 : Int32)), .val (.int (0 : Int32)), .unset, .unset] [(.double d3_1)])) _
    refine XS.dstore Xo3_6.here hx rfl (hb hby own_d3_37) rfl (l' := #[.val (.ref a3_0), .val (.double d3_1), .second, .val (.double d3_2), .second, .val (.ref bn3_2), .val (.int (2 : Int32)), .val (.int (0 : Int32)), .val (.double d3_1), .second]) rfl ?_
    show Steps p.tables e below (To3_6.setTop (mkF m 39 #[.val (.ref a3_0), .val (.double d3_1), .second, .val (.double d3_2), .second, .val (.ref bn3_2), .val (.int (2 : Int32)), .val (.int (0 : Int32)), .val (.double d3_1), .second] [])) _
    refine XS.dload Xo3_6.here hx rfl (hb hby own_d3_39) rfl ?_
    show Steps p.tables e below (To3_6.setTop (mkF m 41 #[.val (.ref a3_0), .val (.double d3_1), .second, .val (.double d3_2), .second, .val (.ref bn3_2), .val (.int (2 : Int32)), .val (.int (0 : Int32)), .val (.double d3_1), .second] [(.double d3_1)])) _
    refine XS.dconst0 Xo3_6.here hx rfl (hb hby own_d3_41) (v := (0 : UInt64)) (by decide +kernel) ?_
    show Steps p.tables e below (To3_6.setTop (mkF m 42 #[.val (.ref a3_0), .val (.double d3_1), .second, .val (.double d3_2), .second, .val (.ref bn3_2), .val (.int (2 : Int32)), .val (.int (0 : Int32)), .val (.double d3_1), .second] [(.double (0 : UInt64)), (.double d3_1)])) _
    refine XS.dcmpS Xo3_6.here hx rfl (hb hby own_d3_42) rfl rfl ?_
    show Steps p.tables e below (To3_6.setTop (mkF m 43 #[.val (.ref a3_0), .val (.double d3_1), .second, .val (.double d3_2), .second, .val (.ref bn3_2), .val (.int (2 : Int32)), .val (.int (0 : Int32)), .val (.double d3_1), .second] [(.int (cmpValue (FP.dcmp d3_1 (0 : UInt64)) .l))])) _
    refine XS.ifNo Xo3_6.here hx rfl (hb hby own_d3_43) rfl (XT.i0_lt_f hc43) ?_
    show Steps p.tables e below (To3_6.setTop (mkF m 46 #[.val (.ref a3_0), .val (.double d3_1), .second, .val (.double d3_2), .second, .val (.ref bn3_2), .val (.int (2 : Int32)), .val (.int (0 : Int32)), .val (.double d3_1), .second] [])) _
    refine XS.dload Xo3_6.here hx rfl (hb hby own_d3_46) rfl ?_
    show Steps p.tables e below (To3_6.setTop (mkF m 48 #[.val (.ref a3_0), .val (.double d3_1), .second, .val (.double d3_2), .second, .val (.ref bn3_2), .val (.int (2 : Int32)), .val (.int (0 : Int32)), .val (.double d3_1), .second] [(.double d3_1)])) _
    refine Xo3_6.ldc2DoubleC hx hown (mvT hZ (hw _ (List.mem_of_getElem? (i := 25) rfl))) (g := (mkF m 48 #[.val (.ref a3_0), .val (.double d3_1), .second, .val (.double d3_2), .second, .val (.ref bn3_2), .val (.int (2 : Int32)), .val (.int (0 : Int32)), .val (.double d3_1), .second] [(.double d3_1)])) rfl (hb hby own_d3_48) _ ?_
    show Steps p.tables e below (To3_6.setTop (mkF m 51 #[.val (.ref a3_0), .val (.double d3_1), .second, .val (.double d3_2), .second, .val (.ref bn3_2), .val (.int (2 : Int32)), .val (.int (0 : Int32)), .val (.double d3_1), .second] [(.double (9218868437227405312 : UInt64)), (.double d3_1)])) _
    refine XS.dcmpS Xo3_6.here hx rfl (hb hby own_d3_51) rfl rfl ?_
    show Steps p.tables e below (To3_6.setTop (mkF m 52 #[.val (.ref a3_0), .val (.double d3_1), .second, .val (.double d3_2), .second, .val (.ref bn3_2), .val (.int (2 : Int32)), .val (.int (0 : Int32)), .val (.double d3_1), .second] [(.int (cmpValue (FP.dcmp d3_1 (9218868437227405312 : UInt64)) .g))])) _
    refine XS.ifYes Xo3_6.here hx rfl (pc0 := 52) (pc' := 70) rfl (hb hby own_d3_52) rfl (XT.i0_lt_t hc52) (by decide) (by decide) ?_
    show Steps p.tables e below (To3_6.setTop (mkF m 70 #[.val (.ref a3_0), .val (.double d3_1), .second, .val (.double d3_2), .second, .val (.ref bn3_2), .val (.int (2 : Int32)), .val (.int (0 : Int32)), .val (.double d3_1), .second] [])) _
    refine XS.iinc Xo3_6.here hx rfl (hb hby own_d3_70) rfl (l' := #[.val (.ref a3_0), .val (.double d3_1), .second, .val (.double d3_2), .second, .val (.ref bn3_2), .val (.int (2 : Int32)), .val (.int (1 : Int32)), .val (.double d3_1), .second]) rfl ?_
    show Steps p.tables e below (To3_6.setTop (mkF m 73 #[.val (.ref a3_0), .val (.double d3_1), .second, .val (.double d3_2), .second, .val (.ref bn3_2), .val (.int (2 : Int32)), .val (.int (1 : Int32)), .val (.double d3_1), .second] [])) _
    refine XS.goto Xo3_6.here hx rfl (pc0 := 73) (pc' := 25) rfl (hb hby own_d3_73) (by decide) (by decide) ?_
    show Steps p.tables e below (To3_6.setTop (mkF m 25 #[.val (.ref a3_0), .val (.double d3_1), .second, .val (.double d3_2), .second, .val (.ref bn3_2), .val (.int (2 : Int32)), .val (.int (1 : Int32)), .val (.double d3_1), .second] [])) _
    refine XS.iload Xo3_6.here hx rfl (hb hby own_d3_25) rfl ?_
    show Steps p.tables e below (To3_6.setTop (mkF m 27 #[.val (.ref a3_0), .val (.double d3_1), .second, .val (.double d3_2), .second, .val (.ref bn3_2), .val (.int (2 : Int32)), .val (.int (1 : Int32)), .val (.double d3_1), .second] [(.int (1 : Int32))])) _
    refine XS.iload Xo3_6.here hx rfl (hb hby own_d3_27) rfl ?_
    show Steps p.tables e below (To3_6.setTop (mkF m 29 #[.val (.ref a3_0), .val (.double d3_1), .second, .val (.double d3_2), .second, .val (.ref bn3_2), .val (.int (2 : Int32)), .val (.int (1 : Int32)), .val (.double d3_1), .second] [(.int (2 : Int32)), (.int (1 : Int32))])) _
    refine XS.icmpNo Xo3_6.here hx rfl (hb hby own_d3_29) rfl (XT.ii_ge_f (by decide : (1 : Int32) < (2 : Int32))) ?_
    show Steps p.tables e below (To3_6.setTop (mkF m 32 #[.val (.ref a3_0), .val (.double d3_1), .second, .val (.double d3_2), .second, .val (.ref bn3_2), .val (.int (2 : Int32)), .val (.int (1 : Int32)), .val (.double d3_1), .second] [])) _
    refine XS.aload Xo3_6.here hx rfl (hb hby own_d3_32) rfl rfl ?_
    show Steps p.tables e below (To3_6.setTop (mkF m 34 #[.val (.ref a3_0), .val (.double d3_1), .second, .val (.double d3_2), .second, .val (.ref bn3_2), .val (.int (2 : Int32)), .val (.int (1 : Int32)), .val (.double d3_1), .second] [(.ref bn3_2)])) _
    refine XS.iload Xo3_6.here hx rfl (hb hby own_d3_34) rfl ?_
    show Steps p.tables e below (To3_6.setTop (mkF m 36 #[.val (.ref a3_0), .val (.double d3_1), .second, .val (.double d3_2), .second, .val (.ref bn3_2), .val (.int (2 : Int32)), .val (.int (1 : Int32)), .val (.double d3_1), .second] [(.int (1 : Int32)), (.ref bn3_2)])) _
    refine Xo3_6.daload hx (j := (1 : Int32)) (v := (.double d3_2)) (by rw [eo3_6]; exact Aro3_10.1) (State.isArrayOf_alike hZ.alike Aro3_10.2.1) Aro3_10.2.2 hino3_10 hato3_10 (g := (mkF m 36 #[.val (.ref a3_0), .val (.double d3_1), .second, .val (.double d3_2), .second, .val (.ref bn3_2), .val (.int (2 : Int32)), .val (.int (1 : Int32)), .val (.double d3_1), .second] [(.int (1 : Int32)), (.ref bn3_2)])) rfl rfl (hb hby own_d3_36) _ ?_
    show Steps p.tables e below (To3_6.setTop (mkF m 37 #[.val (.ref a3_0), .val (.double d3_1), .second, .val (.double d3_2), .second, .val (.ref bn3_2), .val (.int (2 : Int32)), .val (.int (1 : Int32)), .val (.double d3_1), .second] [(.double d3_2)])) _
    refine XS.dstore Xo3_6.here hx rfl (hb hby own_d3_37) rfl (l' := #[.val (.ref a3_0), .val (.double d3_1), .second, .val (.double d3_2), .second, .val (.ref bn3_2), .val (.int (2 : Int32)), .val (.int (1 : Int32)), .val (.double d3_2), .second]) rfl ?_
    show Steps p.tables e below (To3_6.setTop (mkF m 39 #[.val (.ref a3_0), .val (.double d3_1), .second, .val (.double d3_2), .second, .val (.ref bn3_2), .val (.int (2 : Int32)), .val (.int (1 : Int32)), .val (.double d3_2), .second] [])) _
    refine XS.dload Xo3_6.here hx rfl (hb hby own_d3_39) rfl ?_
    show Steps p.tables e below (To3_6.setTop (mkF m 41 #[.val (.ref a3_0), .val (.double d3_1), .second, .val (.double d3_2), .second, .val (.ref bn3_2), .val (.int (2 : Int32)), .val (.int (1 : Int32)), .val (.double d3_2), .second] [(.double d3_2)])) _
    refine XS.dconst0 Xo3_6.here hx rfl (hb hby own_d3_41) (v := (0 : UInt64)) (by decide +kernel) ?_
    show Steps p.tables e below (To3_6.setTop (mkF m 42 #[.val (.ref a3_0), .val (.double d3_1), .second, .val (.double d3_2), .second, .val (.ref bn3_2), .val (.int (2 : Int32)), .val (.int (1 : Int32)), .val (.double d3_2), .second] [(.double (0 : UInt64)), (.double d3_2)])) _
    refine XS.dcmpS Xo3_6.here hx rfl (hb hby own_d3_42) rfl rfl ?_
    show Steps p.tables e below (To3_6.setTop (mkF m 43 #[.val (.ref a3_0), .val (.double d3_1), .second, .val (.double d3_2), .second, .val (.ref bn3_2), .val (.int (2 : Int32)), .val (.int (1 : Int32)), .val (.double d3_2), .second] [(.int (cmpValue (FP.dcmp d3_2 (0 : UInt64)) .l))])) _
    refine XS.ifNo Xo3_6.here hx rfl (hb hby own_d3_43) rfl (XT.i0_lt_f hc43_2) ?_
    show Steps p.tables e below (To3_6.setTop (mkF m 46 #[.val (.ref a3_0), .val (.double d3_1), .second, .val (.double d3_2), .second, .val (.ref bn3_2), .val (.int (2 : Int32)), .val (.int (1 : Int32)), .val (.double d3_2), .second] [])) _
    refine XS.dload Xo3_6.here hx rfl (hb hby own_d3_46) rfl ?_
    show Steps p.tables e below (To3_6.setTop (mkF m 48 #[.val (.ref a3_0), .val (.double d3_1), .second, .val (.double d3_2), .second, .val (.ref bn3_2), .val (.int (2 : Int32)), .val (.int (1 : Int32)), .val (.double d3_2), .second] [(.double d3_2)])) _
    refine Xo3_6.ldc2DoubleC hx hown (mvT hZ (hw _ (List.mem_of_getElem? (i := 25) rfl))) (g := (mkF m 48 #[.val (.ref a3_0), .val (.double d3_1), .second, .val (.double d3_2), .second, .val (.ref bn3_2), .val (.int (2 : Int32)), .val (.int (1 : Int32)), .val (.double d3_2), .second] [(.double d3_2)])) rfl (hb hby own_d3_48) _ ?_
    show Steps p.tables e below (To3_6.setTop (mkF m 51 #[.val (.ref a3_0), .val (.double d3_1), .second, .val (.double d3_2), .second, .val (.ref bn3_2), .val (.int (2 : Int32)), .val (.int (1 : Int32)), .val (.double d3_2), .second] [(.double (9218868437227405312 : UInt64)), (.double d3_2)])) _
    refine XS.dcmpS Xo3_6.here hx rfl (hb hby own_d3_51) rfl rfl ?_
    show Steps p.tables e below (To3_6.setTop (mkF m 52 #[.val (.ref a3_0), .val (.double d3_1), .second, .val (.double d3_2), .second, .val (.ref bn3_2), .val (.int (2 : Int32)), .val (.int (1 : Int32)), .val (.double d3_2), .second] [(.int (cmpValue (FP.dcmp d3_2 (9218868437227405312 : UInt64)) .g))])) _
    refine XS.ifYes Xo3_6.here hx rfl (pc0 := 52) (pc' := 70) rfl (hb hby own_d3_52) rfl (XT.i0_lt_t hc52_2) (by decide) (by decide) ?_
    show Steps p.tables e below (To3_6.setTop (mkF m 70 #[.val (.ref a3_0), .val (.double d3_1), .second, .val (.double d3_2), .second, .val (.ref bn3_2), .val (.int (2 : Int32)), .val (.int (1 : Int32)), .val (.double d3_2), .second] [])) _
    refine XS.iinc Xo3_6.here hx rfl (hb hby own_d3_70) rfl (l' := #[.val (.ref a3_0), .val (.double d3_1), .second, .val (.double d3_2), .second, .val (.ref bn3_2), .val (.int (2 : Int32)), .val (.int (2 : Int32)), .val (.double d3_2), .second]) rfl ?_
    show Steps p.tables e below (To3_6.setTop (mkF m 73 #[.val (.ref a3_0), .val (.double d3_1), .second, .val (.double d3_2), .second, .val (.ref bn3_2), .val (.int (2 : Int32)), .val (.int (2 : Int32)), .val (.double d3_2), .second] [])) _
    refine XS.goto Xo3_6.here hx rfl (pc0 := 73) (pc' := 25) rfl (hb hby own_d3_73) (by decide) (by decide) ?_
    show Steps p.tables e below (To3_6.setTop (mkF m 25 #[.val (.ref a3_0), .val (.double d3_1), .second, .val (.double d3_2), .second, .val (.ref bn3_2), .val (.int (2 : Int32)), .val (.int (2 : Int32)), .val (.double d3_2), .second] [])) _
    refine XS.iload Xo3_6.here hx rfl (hb hby own_d3_25) rfl ?_
    show Steps p.tables e below (To3_6.setTop (mkF m 27 #[.val (.ref a3_0), .val (.double d3_1), .second, .val (.double d3_2), .second, .val (.ref bn3_2), .val (.int (2 : Int32)), .val (.int (2 : Int32)), .val (.double d3_2), .second] [(.int (2 : Int32))])) _
    refine XS.iload Xo3_6.here hx rfl (hb hby own_d3_27) rfl ?_
    show Steps p.tables e below (To3_6.setTop (mkF m 29 #[.val (.ref a3_0), .val (.double d3_1), .second, .val (.double d3_2), .second, .val (.ref bn3_2), .val (.int (2 : Int32)), .val (.int (2 : Int32)), .val (.double d3_2), .second] [(.int (2 : Int32)), (.int (2 : Int32))])) _
    refine XS.icmpYes Xo3_6.here hx rfl (pc0 := 29) (pc' := 76) rfl (hb hby own_d3_29) rfl (XT.ii_ge_t (by decide : ¬ ((2 : Int32) < (2 : Int32)))) (by decide) (by decide) ?_
    show Steps p.tables e below (To3_6.setTop (mkF m 76 #[.val (.ref a3_0), .val (.double d3_1), .second, .val (.double d3_2), .second, .val (.ref bn3_2), .val (.int (2 : Int32)), .val (.int (2 : Int32)), .val (.double d3_2), .second] [])) _
    refine XS.dloadN Xo3_6.here hx rfl (hb hby own_d3_76) rfl ?_
    show Steps p.tables e below (To3_6.setTop (mkF m 77 #[.val (.ref a3_0), .val (.double d3_1), .second, .val (.double d3_2), .second, .val (.ref bn3_2), .val (.int (2 : Int32)), .val (.int (2 : Int32)), .val (.double d3_2), .second] [(.double d3_1)])) _
    refine XS.dloadN Xo3_6.here hx rfl (hb hby own_d3_77) rfl ?_
    show Steps p.tables e below (To3_6.setTop (mkF m 78 #[.val (.ref a3_0), .val (.double d3_1), .second, .val (.double d3_2), .second, .val (.ref bn3_2), .val (.int (2 : Int32)), .val (.int (2 : Int32)), .val (.double d3_2), .second] [(.double d3_2), (.double d3_1)])) _
    refine XS.dcmpS Xo3_6.here hx rfl (hb hby own_d3_78) rfl rfl ?_
    show Steps p.tables e below (To3_6.setTop (mkF m 79 #[.val (.ref a3_0), .val (.double d3_1), .second, .val (.double d3_2), .second, .val (.ref bn3_2), .val (.int (2 : Int32)), .val (.int (2 : Int32)), .val (.double d3_2), .second] [(.int (cmpValue (FP.dcmp d3_1 d3_2) .l))])) _
    refine XS.ifYes Xo3_6.here hx rfl (pc0 := 79) (pc' := 97) rfl (hb hby own_d3_79) rfl (XT.i0_le_t hc79) (by decide) (by decide) ?_
    show Steps p.tables e below (To3_6.setTop (mkF m 97 #[.val (.ref a3_0), .val (.double d3_1), .second, .val (.double d3_2), .second, .val (.ref bn3_2), .val (.int (2 : Int32)), .val (.int (2 : Int32)), .val (.double d3_2), .second] [])) _
    refine XS.aloadN Xo3_6.here hx rfl (hb hby own_d3_97) rfl rfl ?_
    show Steps p.tables e below (To3_6.setTop (mkF m 98 #[.val (.ref a3_0), .val (.double d3_1), .second, .val (.double d3_2), .second, .val (.ref bn3_2), .val (.int (2 : Int32)), .val (.int (2 : Int32)), .val (.double d3_2), .second] [(.ref a3_0)])) _
    refine XS.dloadN Xo3_6.here hx rfl (hb hby own_d3_98) rfl ?_
    show Steps p.tables e below (To3_6.setTop (mkF m 99 #[.val (.ref a3_0), .val (.double d3_1), .second, .val (.double d3_2), .second, .val (.ref bn3_2), .val (.int (2 : Int32)), .val (.int (2 : Int32)), .val (.double d3_2), .second] [(.double d3_1), (.ref a3_0)])) _
    refine stn3_14 _ ?_
    show Steps p.tables e below (Tn3_14.setTop (mkF m 102 #[.val (.ref a3_0), .val (.double d3_1), .second, .val (.double d3_2), .second, .val (.ref bn3_2), .val (.int (2 : Int32)), .val (.int (2 : Int32)), .val (.double d3_2), .second] [])) _
    refine XS.aloadN Xn3_14.here hx rfl (hb hby own_d3_102) rfl rfl ?_
    show Steps p.tables e below (Tn3_14.setTop (mkF m 103 #[.val (.ref a3_0), .val (.double d3_1), .second, .val (.double d3_2), .second, .val (.ref bn3_2), .val (.int (2 : Int32)), .val (.int (2 : Int32)), .val (.double d3_2), .second] [(.ref a3_0)])) _
    refine XS.dloadN Xn3_14.here hx rfl (hb hby own_d3_103) rfl ?_
    show Steps p.tables e below (Tn3_14.setTop (mkF m 104 #[.val (.ref a3_0), .val (.double d3_1), .second, .val (.double d3_2), .second, .val (.ref bn3_2), .val (.int (2 : Int32)), .val (.int (2 : Int32)), .val (.double d3_2), .second] [(.double d3_2), (.ref a3_0)])) _
    refine stn3_18 _ ?_
    show Steps p.tables e below (Tn3_18.setTop (mkF m 107 #[.val (.ref a3_0), .val (.double d3_1), .second, .val (.double d3_2), .second, .val (.ref bn3_2), .val (.int (2 : Int32)), .val (.int (2 : Int32)), .val (.double d3_2), .second] [])) _
    exact Xn3_18.returnOut hx Bd.returns (hb hby own_d3_107) hr
  · show own_Q3 Z a3_0 d3_1 d3_2 w_lower_a3_0 w_upper_a3_0 h0 n0 _ Tn3_18.heap _
    rw [en3_18]
    exact ⟨rfl, Nn3_18, ((((((Keep.refl h0 [a3_0]).ext En3_2).wr Wo3_4 (Or.inr sz_bn3_2)).wr Wo3_6 (Or.inr sz_bn3_2)).wr Wn3_14 (Or.inl (List.mem_of_getElem? (i := 0) rfl))).wr Wn3_18 (Or.inl (List.mem_of_getElem? (i := 0) rfl))), (F3_16.wr Wn3_18), (Fwn3_14.other Wn3_18 (Or.inr (slot_ne (Or.inr (hw _ (List.mem_of_getElem? (i := 27) rfl))) (Or.inr (hw _ (List.mem_of_getElem? (i := 29) rfl))) (by decide) (t := .double) (t' := .double) (by decide) (by decide)))), Fwn3_18⟩
theorem own_d6_0 : decode prog_15_method_2_code 0 = .ok (.aload_n 0, 1) := by decide +kernel
theorem own_d6_1 : decode prog_15_method_2_code 1 = .ok (.getfield 23, 3) := by decide +kernel
theorem own_d6_4 : decode prog_15_method_2_code 4 = .ok (.aload_n 0, 1) := by decide +kernel
theorem own_d6_5 : decode prog_15_method_2_code 5 = .ok (.getfield 29, 3) := by decide +kernel
theorem own_d6_8 : decode prog_15_method_2_code 8 = .ok (.dadd, 1) := by decide +kernel
theorem own_d6_9 : decode prog_15_method_2_code 9 = .ok (.dstore_n 1, 1) := by decide +kernel
theorem own_d6_10 : decode prog_15_method_2_code 10 = .ok (.dload_n 1, 1) := by decide +kernel
theorem own_d6_11 : decode prog_15_method_2_code 11 = .ok (.ldc2_w 9, 3) := by decide +kernel
theorem own_d6_14 : decode prog_15_method_2_code 14 = .ok (.dcmp .g, 1) := by decide +kernel
theorem own_d6_15 : decode prog_15_method_2_code 15 = .ok (.ifCond .ge 11, 3) := by decide +kernel
theorem own_d6_18 : decode prog_15_method_2_code 18 = .ok (.dload_n 1, 1) := by decide +kernel
theorem own_d6_19 : decode prog_15_method_2_code 19 = .ok (.ldc2_w 32, 3) := by decide +kernel
theorem own_d6_22 : decode prog_15_method_2_code 22 = .ok (.ddiv, 1) := by decide +kernel
theorem own_d6_23 : decode prog_15_method_2_code 23 = .ok (.goto 20, 3) := by decide +kernel
theorem own_d6_26 : decode prog_15_method_2_code 26 = .ok (.aload_n 0, 1) := by decide +kernel
theorem own_d6_27 : decode prog_15_method_2_code 27 = .ok (.getfield 23, 3) := by decide +kernel
theorem own_d6_30 : decode prog_15_method_2_code 30 = .ok (.ldc2_w 32, 3) := by decide +kernel
theorem own_d6_33 : decode prog_15_method_2_code 33 = .ok (.ddiv, 1) := by decide +kernel
theorem own_d6_34 : decode prog_15_method_2_code 34 = .ok (.aload_n 0, 1) := by decide +kernel
theorem own_d6_35 : decode prog_15_method_2_code 35 = .ok (.getfield 29, 3) := by decide +kernel
theorem own_d6_38 : decode prog_15_method_2_code 38 = .ok (.ldc2_w 32, 3) := by decide +kernel
theorem own_d6_41 : decode prog_15_method_2_code 41 = .ok (.ddiv, 1) := by decide +kernel
theorem own_d6_42 : decode prog_15_method_2_code 42 = .ok (.dadd, 1) := by decide +kernel
theorem own_d6_43 : decode prog_15_method_2_code 43 = .ok (.dreturn, 1) := by decide +kernel
def own_v6_0 (w_lower_a6_0 : UInt64) (w_upper_a6_0 : UInt64) : UInt64 := (FP.dadd w_lower_a6_0 w_upper_a6_0)
def own_j6_1 (w_lower_a6_0 : UInt64) (w_upper_a6_0 : UInt64) : UInt64 := if (cmpValue (FP.dcmp (own_v6_0 w_lower_a6_0 w_upper_a6_0) (9218868437227405312 : UInt64)) .g) < (0 : Int32) then (FP.ddiv (own_v6_0 w_lower_a6_0 w_upper_a6_0) (4611686018427387904 : UInt64)) else (FP.dadd (FP.ddiv w_lower_a6_0 (4611686018427387904 : UInt64)) (FP.ddiv w_upper_a6_0 (4611686018427387904 : UInt64)))
def own_r6_2 (w_lower_a6_0 : UInt64) (w_upper_a6_0 : UInt64) : UInt64 := (own_j6_1 w_lower_a6_0 w_upper_a6_0)
theorem own_ef6 (m : MethodId) (a6_0 : Addr) : entryFrame m #[(.ref a6_0)] 3 = mkF m 0 #[.val (.ref a6_0), .unset, .unset] [] := by first | (simp [entryFrame, mkF, argsToLocals, Value.category]; done) | rfl
def own_Q6 (Z : State) (a6_0 : Addr) (w_lower_a6_0 : UInt64) (w_upper_a6_0 : UInt64) (h0 : Heap) (n0 : Nat) (v : Option Value) (h : Heap) (L : List Loc) : Prop := v = some (.double (own_r6_2 w_lower_a6_0 w_upper_a6_0)) ∧ Fr n0 L ∧ h = h0
set_option maxRecDepth 65536 in
set_option maxHeartbeats 40000000 in
theorem own_rm6 (l : Launch) (Z : State) (a0 : Array Value) (hw : ∀ d ∈ tables_1, d.before a0 Z = true) (ws : List Jvm.Cond) (a6_0 : Addr) (w_lower_a6_0 : UInt64) (w_upper_a6_0 : UInt64) (h0 : Heap) (n0 : Nat) (Z0 : n0 ≤ h0.size) (F_lower_a6_0 : Fld Z h0 a6_0 "com/example/surepath/surepath/Interval" "lower" "D" (.double w_lower_a6_0)) (F_upper_a6_0 : Fld Z h0 a6_0 "com/example/surepath/surepath/Interval" "upper" "D" (.double w_upper_a6_0)) (nn8 : NoNaN64 (FP.dadd w_lower_a6_0 w_upper_a6_0)) (nn22 : (cmpValue (FP.dcmp (own_v6_0 w_lower_a6_0 w_upper_a6_0) (9218868437227405312 : UInt64)) .g) < (0 : Int32) → NoNaN64 (FP.ddiv (own_v6_0 w_lower_a6_0 w_upper_a6_0) (4611686018427387904 : UInt64))) (nn33 : ¬ ((cmpValue (FP.dcmp (own_v6_0 w_lower_a6_0 w_upper_a6_0) (9218868437227405312 : UInt64)) .g) < (0 : Int32)) → NoNaN64 (FP.ddiv w_lower_a6_0 (4611686018427387904 : UInt64))) (nn41 : ¬ ((cmpValue (FP.dcmp (own_v6_0 w_lower_a6_0 w_upper_a6_0) (9218868437227405312 : UInt64)) .g) < (0 : Int32)) → NoNaN64 (FP.ddiv w_upper_a6_0 (4611686018427387904 : UInt64))) (nn42 : ¬ ((cmpValue (FP.dcmp (own_v6_0 w_lower_a6_0 w_upper_a6_0) (9218868437227405312 : UInt64)) .g) < (0 : Int32)) → NoNaN64 (FP.dadd (FP.ddiv w_lower_a6_0 (4611686018427387904 : UInt64)) (FP.ddiv w_upper_a6_0 (4611686018427387904 : UInt64)))) :
    MetFree l (⟨"com/example/surepath/surepath/Interval", "centre", "()D"⟩ : MethodName) (head1 (Jvm.Cond.code (⟨"com/example/surepath/surepath/Interval", "centre", "()D"⟩ : MethodName) prog_15_method_2_code 3 (some .double) :: ws) ({ frames := 0, cells := 0, slots := 0, locals := 0 } : Room)) (fun a U => a = #[(.ref a6_0)] ∧ Z.Warmed39 U.vm ∧ U.heap = h0) (fun _ _ _ _ _ => True) (fun _ U o U' => ∃ v L, o = .returned v ∧ own_Q6 Z a6_0 w_lower_a6_0 w_upper_a6_0 h0 n0 v U'.heap L ∧ FrameEnd U o U' L ({ frames := 0, cells := 0, slots := 0, locals := 0 } : Room).cells ({ frames := 0, cells := 0, slots := 0, locals := 0 } : Room).slots) := by
  refine MetFree.of_bodySF (plainFor_of_name own_pn1) hisR ?_
  intro p e s m args below meth c s₁ Bd hml0 hP hK
  obtain ⟨rfl, hZ, hh⟩ := hP
  have hx := Bd.exec
  have hby := Bd.bytes
  have hml : c.maxLocals = 3 := hml0
  have hown : s.vm.findClass "com/example/surepath/surepath/Interval" = some m.cls := findClass_of_methodNamed Bd.named
  have hnm := (name_of_methodNamed Bd.named Bd.method).1
  have X0 : Stand p l e ({ frames := 0, cells := 0, slots := 0, locals := 0 } : Room) s m #[(.ref a6_0)] below meth c s₁ [] 0 0 := Stand.of_body Bd
  have e0 : s₁.heap = h0 := by rw [← hh, Bd.state]; rfl
  have N0 := Fr.nil n0
  have Zr : h0.size ≤ h0.size := Nat.le_refl _
  have pre0 : ∀ t, Steps p.tables e below (s₁.setTop (mkF m 0 #[.val (.ref a6_0), .unset, .unset] [])) t → Steps p.tables e below (s₁.setTop (entryFrame m #[(.ref a6_0)] 3)) t := fun t k => castTop (own_ef6 m a6_0) k
  obtain ⟨Tn6_1, Xn6_1, en6_1, stn6_1⟩ := getF X0 hx hZ hown (host := "") (Or.inl (hw _ (List.mem_of_getElem? (i := 26) rfl))) Via.refl e0 F_lower_a6_0 (g := (mkF m 1 #[.val (.ref a6_0), .unset, .unset] [(.ref a6_0)])) rfl rfl (hb hby own_d6_1)
  obtain ⟨Tn6_2, Xn6_2, en6_2, stn6_2⟩ := getF Xn6_1 hx hZ hown (host := "") (Or.inl (hw _ (List.mem_of_getElem? (i := 28) rfl))) Via.refl en6_1 F_upper_a6_0 (g := (mkF m 5 #[.val (.ref a6_0), .unset, .unset] [(.ref a6_0), (.double w_lower_a6_0)])) rfl rfl (hb hby own_d6_5)
  obtain ⟨Tj6_3, lj6_3, Xj6_3, Nj6_3, ej6_3, stj6_3⟩ : ∃ (T' : State) (l' : List Loc), Stand p l e ({ frames := 0, cells := 0, slots := 0, locals := 0 } : Room) s m #[(.ref a6_0)] below meth c T' l' 0 0 ∧ Fr n0 l' ∧ T'.heap = h0 ∧ ∀ target, Steps p.tables e below (T'.setTop (mkF m 43 #[.val (.ref a6_0), .val (.double (own_v6_0 w_lower_a6_0 w_upper_a6_0)), .second] [(.double (own_j6_1 w_lower_a6_0 w_upper_a6_0))])) target → Steps p.tables e below (Tn6_2.setTop (mkF m 15 #[.val (.ref a6_0), .val (.double (own_v6_0 w_lower_a6_0 w_upper_a6_0)), .second] [(.int (cmpValue (FP.dcmp (own_v6_0 w_lower_a6_0 w_upper_a6_0) (9218868437227405312 : UInt64)) .g))])) target := by
    by_cases hj6_3 : (cmpValue (FP.dcmp (own_v6_0 w_lower_a6_0 w_upper_a6_0) (9218868437227405312 : UInt64)) .g) < (0 : Int32)
    · refine ⟨_, _, Xn6_2, N0, en6_2, fun target kt => ?_⟩
      rw [(show (own_j6_1 w_lower_a6_0 w_upper_a6_0) = (FP.ddiv (own_v6_0 w_lower_a6_0 w_upper_a6_0) (4611686018427387904 : UInt64)) from if_pos hj6_3)] at kt
      show Steps p.tables e below (Tn6_2.setTop (mkF m 15 #[.val (.ref a6_0), .val (.double (own_v6_0 w_lower_a6_0 w_upper_a6_0)), .second] [(.int (cmpValue (FP.dcmp (own_v6_0 w_lower_a6_0 w_upper_a6_0) (9218868437227405312 : UInt64)) .g))])) _
      refine XS.ifNo Xn6_2.here hx rfl (hb hby own_d6_15) rfl (XT.i0_ge_f hj6_3) ?_
      show Steps p.tables e below (Tn6_2.setTop (mkF m 18 #[.val (.ref a6_0), .val (.double (own_v6_0 w_lower_a6_0 w_upper_a6_0)), .second] [])) _
      refine XS.dloadN Xn6_2.here hx rfl (hb hby own_d6_18) rfl ?_
      show Steps p.tables e below (Tn6_2.setTop (mkF m 19 #[.val (.ref a6_0), .val (.double (own_v6_0 w_lower_a6_0 w_upper_a6_0)), .second] [(.double (own_v6_0 w_lower_a6_0 w_upper_a6_0))])) _
      refine Xn6_2.ldc2DoubleC hx hown (mvT hZ (hw _ (List.mem_of_getElem? (i := 35) rfl))) (g := (mkF m 19 #[.val (.ref a6_0), .val (.double (own_v6_0 w_lower_a6_0 w_upper_a6_0)), .second] [(.double (own_v6_0 w_lower_a6_0 w_upper_a6_0))])) rfl (hb hby own_d6_19) _ ?_
      show Steps p.tables e below (Tn6_2.setTop (mkF m 22 #[.val (.ref a6_0), .val (.double (own_v6_0 w_lower_a6_0 w_upper_a6_0)), .second] [(.double (4611686018427387904 : UInt64)), (.double (own_v6_0 w_lower_a6_0 w_upper_a6_0))])) _
      refine XS.ddivS Xn6_2.here hx rfl (hb hby own_d6_22) rfl (nn22 hj6_3) rfl ?_
      show Steps p.tables e below (Tn6_2.setTop (mkF m 23 #[.val (.ref a6_0), .val (.double (own_v6_0 w_lower_a6_0 w_upper_a6_0)), .second] [(.double (FP.ddiv (own_v6_0 w_lower_a6_0 w_upper_a6_0) (4611686018427387904 : UInt64)))])) _
      refine XS.goto Xn6_2.here hx rfl (pc0 := 23) (pc' := 43) rfl (hb hby own_d6_23) (by decide) (by decide) ?_
      exact kt
    · obtain ⟨Tn6_4, Xn6_4, en6_4, stn6_4⟩ := getF Xn6_2 hx hZ hown (host := "") (Or.inl (hw _ (List.mem_of_getElem? (i := 26) rfl))) Via.refl en6_2 F_lower_a6_0 (g := (mkF m 27 #[.val (.ref a6_0), .val (.double (own_v6_0 w_lower_a6_0 w_upper_a6_0)), .second] [(.ref a6_0)])) rfl rfl (hb hby own_d6_27)
      obtain ⟨Tn6_5, Xn6_5, en6_5, stn6_5⟩ := getF Xn6_4 hx hZ hown (host := "") (Or.inl (hw _ (List.mem_of_getElem? (i := 28) rfl))) Via.refl en6_4 F_upper_a6_0 (g := (mkF m 35 #[.val (.ref a6_0), .val (.double (own_v6_0 w_lower_a6_0 w_upper_a6_0)), .second] [(.ref a6_0), (.double (FP.ddiv w_lower_a6_0 (4611686018427387904 : UInt64)))])) rfl rfl (hb hby own_d6_35)
      refine ⟨_, _, Xn6_5, N0, en6_5, fun target kt => ?_⟩
      rw [(show (own_j6_1 w_lower_a6_0 w_upper_a6_0) = (FP.dadd (FP.ddiv w_lower_a6_0 (4611686018427387904 : UInt64)) (FP.ddiv w_upper_a6_0 (4611686018427387904 : UInt64))) from if_neg hj6_3)] at kt
      show Steps p.tables e below (Tn6_2.setTop (mkF m 15 #[.val (.ref a6_0), .val (.double (own_v6_0 w_lower_a6_0 w_upper_a6_0)), .second] [(.int (cmpValue (FP.dcmp (own_v6_0 w_lower_a6_0 w_upper_a6_0) (9218868437227405312 : UInt64)) .g))])) _
      refine XS.ifYes Xn6_2.here hx rfl (pc0 := 15) (pc' := 26) rfl (hb hby own_d6_15) rfl (XT.i0_ge_t hj6_3) (by decide) (by decide) ?_
      show Steps p.tables e below (Tn6_2.setTop (mkF m 26 #[.val (.ref a6_0), .val (.double (own_v6_0 w_lower_a6_0 w_upper_a6_0)), .second] [])) _
      refine XS.aloadN Xn6_2.here hx rfl (hb hby own_d6_26) rfl rfl ?_
      show Steps p.tables e below (Tn6_2.setTop (mkF m 27 #[.val (.ref a6_0), .val (.double (own_v6_0 w_lower_a6_0 w_upper_a6_0)), .second] [(.ref a6_0)])) _
      refine stn6_4 _ ?_
      show Steps p.tables e below (Tn6_4.setTop (mkF m 30 #[.val (.ref a6_0), .val (.double (own_v6_0 w_lower_a6_0 w_upper_a6_0)), .second] [(.double w_lower_a6_0)])) _
      refine Xn6_4.ldc2DoubleC hx hown (mvT hZ (hw _ (List.mem_of_getElem? (i := 35) rfl))) (g := (mkF m 30 #[.val (.ref a6_0), .val (.double (own_v6_0 w_lower_a6_0 w_upper_a6_0)), .second] [(.double w_lower_a6_0)])) rfl (hb hby own_d6_30) _ ?_
      show Steps p.tables e below (Tn6_4.setTop (mkF m 33 #[.val (.ref a6_0), .val (.double (own_v6_0 w_lower_a6_0 w_upper_a6_0)), .second] [(.double (4611686018427387904 : UInt64)), (.double w_lower_a6_0)])) _
      refine XS.ddivS Xn6_4.here hx rfl (hb hby own_d6_33) rfl (nn33 hj6_3) rfl ?_
      show Steps p.tables e below (Tn6_4.setTop (mkF m 34 #[.val (.ref a6_0), .val (.double (own_v6_0 w_lower_a6_0 w_upper_a6_0)), .second] [(.double (FP.ddiv w_lower_a6_0 (4611686018427387904 : UInt64)))])) _
      refine XS.aloadN Xn6_4.here hx rfl (hb hby own_d6_34) rfl rfl ?_
      show Steps p.tables e below (Tn6_4.setTop (mkF m 35 #[.val (.ref a6_0), .val (.double (own_v6_0 w_lower_a6_0 w_upper_a6_0)), .second] [(.ref a6_0), (.double (FP.ddiv w_lower_a6_0 (4611686018427387904 : UInt64)))])) _
      refine stn6_5 _ ?_
      show Steps p.tables e below (Tn6_5.setTop (mkF m 38 #[.val (.ref a6_0), .val (.double (own_v6_0 w_lower_a6_0 w_upper_a6_0)), .second] [(.double w_upper_a6_0), (.double (FP.ddiv w_lower_a6_0 (4611686018427387904 : UInt64)))])) _
      refine Xn6_5.ldc2DoubleC hx hown (mvT hZ (hw _ (List.mem_of_getElem? (i := 35) rfl))) (g := (mkF m 38 #[.val (.ref a6_0), .val (.double (own_v6_0 w_lower_a6_0 w_upper_a6_0)), .second] [(.double w_upper_a6_0), (.double (FP.ddiv w_lower_a6_0 (4611686018427387904 : UInt64)))])) rfl (hb hby own_d6_38) _ ?_
      show Steps p.tables e below (Tn6_5.setTop (mkF m 41 #[.val (.ref a6_0), .val (.double (own_v6_0 w_lower_a6_0 w_upper_a6_0)), .second] [(.double (4611686018427387904 : UInt64)), (.double w_upper_a6_0), (.double (FP.ddiv w_lower_a6_0 (4611686018427387904 : UInt64)))])) _
      refine XS.ddivS Xn6_5.here hx rfl (hb hby own_d6_41) rfl (nn41 hj6_3) rfl ?_
      show Steps p.tables e below (Tn6_5.setTop (mkF m 42 #[.val (.ref a6_0), .val (.double (own_v6_0 w_lower_a6_0 w_upper_a6_0)), .second] [(.double (FP.ddiv w_upper_a6_0 (4611686018427387904 : UInt64))), (.double (FP.ddiv w_lower_a6_0 (4611686018427387904 : UInt64)))])) _
      refine XS.daddS Xn6_5.here hx rfl (hb hby own_d6_42) rfl (nn42 hj6_3) rfl ?_
      exact kt
  obtain ⟨fs, hr, hrun, hended, hW, hsame⟩ := Xj6_3.leave (v := some (.double (own_j6_1 w_lower_a6_0 w_upper_a6_0))) (fun h => by rw [Bd.returns] at h; cases h)
  refine ⟨_, _, pre0 _ (?_), hrun, hended, _, _, rfl, ?_, ⟨_, rfl⟩, hW, hsame.mono (by decide) (by decide)⟩
  · show Steps p.tables e below (s₁.setTop (mkF m 0 #[.val (.ref a6_0), .unset, .unset] [])) _
    refine XS.aloadN X0.here hx rfl (hb hby own_d6_0) rfl rfl ?_
    show Steps p.tables e below (s₁.setTop (mkF m 1 #[.val (.ref a6_0), .unset, .unset] [(.ref a6_0)])) _
    refine stn6_1 _ ?_
    show Steps p.tables e below (Tn6_1.setTop (mkF m 4 #[.val (.ref a6_0), .unset, .unset] [(.double w_lower_a6_0)])) _
    refine XS.aloadN Xn6_1.here hx rfl (hb hby own_d6_4) rfl rfl ?_
    show Steps p.tables e below (Tn6_1.setTop (mkF m 5 #[.val (.ref a6_0), .unset, .unset] [(.ref a6_0), (.double w_lower_a6_0)])) _
    refine stn6_2 _ ?_
    show Steps p.tables e below (Tn6_2.setTop (mkF m 8 #[.val (.ref a6_0), .unset, .unset] [(.double w_upper_a6_0), (.double w_lower_a6_0)])) _
    refine XS.daddS Xn6_2.here hx rfl (hb hby own_d6_8) rfl nn8 rfl ?_
    show Steps p.tables e below (Tn6_2.setTop (mkF m 9 #[.val (.ref a6_0), .unset, .unset] [(.double (FP.dadd w_lower_a6_0 w_upper_a6_0))])) _
    refine XS.dstoreN Xn6_2.here hx rfl (hb hby own_d6_9) rfl (l' := #[.val (.ref a6_0), .val (.double (own_v6_0 w_lower_a6_0 w_upper_a6_0)), .second]) rfl ?_
    show Steps p.tables e below (Tn6_2.setTop (mkF m 10 #[.val (.ref a6_0), .val (.double (own_v6_0 w_lower_a6_0 w_upper_a6_0)), .second] [])) _
    refine XS.dloadN Xn6_2.here hx rfl (hb hby own_d6_10) rfl ?_
    show Steps p.tables e below (Tn6_2.setTop (mkF m 11 #[.val (.ref a6_0), .val (.double (own_v6_0 w_lower_a6_0 w_upper_a6_0)), .second] [(.double (own_v6_0 w_lower_a6_0 w_upper_a6_0))])) _
    refine Xn6_2.ldc2DoubleC hx hown (mvT hZ (hw _ (List.mem_of_getElem? (i := 25) rfl))) (g := (mkF m 11 #[.val (.ref a6_0), .val (.double (own_v6_0 w_lower_a6_0 w_upper_a6_0)), .second] [(.double (own_v6_0 w_lower_a6_0 w_upper_a6_0))])) rfl (hb hby own_d6_11) _ ?_
    show Steps p.tables e below (Tn6_2.setTop (mkF m 14 #[.val (.ref a6_0), .val (.double (own_v6_0 w_lower_a6_0 w_upper_a6_0)), .second] [(.double (9218868437227405312 : UInt64)), (.double (own_v6_0 w_lower_a6_0 w_upper_a6_0))])) _
    refine XS.dcmpS Xn6_2.here hx rfl (hb hby own_d6_14) rfl rfl ?_
    show Steps p.tables e below (Tn6_2.setTop (mkF m 15 #[.val (.ref a6_0), .val (.double (own_v6_0 w_lower_a6_0 w_upper_a6_0)), .second] [(.int (cmpValue (FP.dcmp (own_v6_0 w_lower_a6_0 w_upper_a6_0) (9218868437227405312 : UInt64)) .g))])) _
    refine stj6_3 _ ?_
    show Steps p.tables e below (Tj6_3.setTop (mkF m 43 #[.val (.ref a6_0), .val (.double (own_v6_0 w_lower_a6_0 w_upper_a6_0)), .second] [(.double (own_j6_1 w_lower_a6_0 w_upper_a6_0))])) _
    exact own_retD Xj6_3 hx Bd.returns (hb hby own_d6_43) hr
  · show own_Q6 Z a6_0 w_lower_a6_0 w_upper_a6_0 h0 n0 _ Tj6_3.heap _
    rw [ej6_3]
    exact ⟨rfl, Nj6_3, rfl⟩
theorem own_pn2 : plainName "com/example/surepath/surepath/IntervalCentrePinLaw" = true := by first | (simp [plainName, overriddenIn]; done) | decide +kernel
theorem own_pd1 : parseMethodDescriptor "(JJ)J" = some ⟨[.long, .long], some .long⟩ := by decide +kernel
theorem own_pd2 : parseMethodDescriptor "(DD)V" = some ⟨[.double, .double], none⟩ := by decide +kernel
theorem own_pd3 : parseMethodDescriptor "()D" = some ⟨[], some .double⟩ := by decide +kernel
def own_v0_0 (p0_0 : Int32) : Int64 := (p0_0.toInt64 &&& (2147483647 : Int64))
def own_v0_1 (p0_1 : Int32) : Int64 := (p0_1.toInt64 &&& (2147483647 : Int64))
def own_v0_2 (p0_0 : Int32) (p0_1 : Int32) : Int64 := (own_j1_0 (own_v0_0 p0_0) (own_v0_1 p0_1))
def own_v0_3 (p0_0 : Int32) (p0_1 : Int32) : Int64 := (own_j2_0 (own_v0_0 p0_0) (own_v0_1 p0_1))
def own_v0_4 (p0_0 : Int32) (p0_1 : Int32) : Int64 := ((own_v0_2 p0_0 p0_1) + (own_v0_3 p0_0 p0_1))
def own_v0_5 (p0_2 : Int32) : Int32 := ((p0_2 &&& (2147483647 : Int32)) - ((p0_2 &&& (2147483647 : Int32)) / (3 : Int32)) * (3 : Int32))
def own_j0_6 (p0_0 : Int32) (p0_1 : Int32) : UInt64 := if ((own_v0_4 p0_0 p0_1) &&& (1 : Int64)) = (0 : Int64) then (0 : UInt64) else (4602678819172646912 : UInt64)
def own_v0_7 (p0_0 : Int32) (p0_1 : Int32) : UInt64 := (FP.dadd (FP.l2d ((own_v0_4 p0_0 p0_1) >>> ((1 : Int32).toInt64 &&& 63))) (own_j0_6 p0_0 p0_1))
def own_v0_8 (p0_0 : Int32) (p0_1 : Int32) : UInt64 := (FP.dmul (FP.l2d (own_v0_4 p0_0 p0_1)) (9074753249151549440 : UInt64))
def own_v0_9 (p0_0 : Int32) (p0_1 : Int32) : Int64 := ((own_v0_4 p0_0 p0_1) >>> ((1 : Int32).toInt64 &&& 63))
def own_v0_10 (p0_0 : Int32) (p0_1 : Int32) : Int64 := ((own_v0_9 p0_0 p0_1) + (1 : Int64))
def own_j0_11 (p0_0 : Int32) (p0_1 : Int32) : Int64 := if ((own_v0_9 p0_0 p0_1) &&& (1 : Int64)) = (0 : Int64) then (own_v0_9 p0_0 p0_1) else (own_v0_10 p0_0 p0_1)
def own_j0_12 (p0_0 : Int32) (p0_1 : Int32) : Int64 := if ((own_v0_4 p0_0 p0_1) &&& (1 : Int64)) = (0 : Int64) then (own_v0_9 p0_0 p0_1) else (own_j0_11 p0_0 p0_1)
def own_v0_13 (p0_0 : Int32) (p0_1 : Int32) : UInt64 := (FP.dmul (FP.l2d (own_j0_12 p0_0 p0_1)) (1 : UInt64))
theorem own_ef0 (m : MethodId) (p0_0 : Int32) (p0_1 : Int32) (p0_2 : Int32) : entryFrame m #[(.int p0_0), (.int p0_1), (.int p0_2)] maxLocals = mkF m 0 #[.val (.int p0_0), .val (.int p0_1), .val (.int p0_2), .unset, .unset, .unset, .unset, .unset, .unset, .unset, .unset, .unset, .unset, .unset, .unset, .unset, .unset, .unset, .unset, .unset] [] := by first | (simp [entryFrame, mkF, argsToLocals, Value.category, maxLocals]; done) | rfl
def own_Q0 (Z : State) (p0_0 : Int32) (p0_1 : Int32) (p0_2 : Int32) (h0 : Heap) (n0 : Nat) (v : Option Value) (h : Heap) (L : List Loc) : Prop := v = some (.int (1 : Int32)) ∧ Fr n0 L
set_option maxRecDepth 65536 in
set_option maxHeartbeats 40000000 in
theorem own_rm0 (l : Launch) (Z : State) (a0 : Array Value) (hw : ∀ d ∈ tables_1, d.before a0 Z = true) (ws : List Jvm.Cond) (p0_0 : Int32) (p0_1 : Int32) (p0_2 : Int32) (h0 : Heap) (n0 : Nat) (Z0 : n0 ≤ h0.size) (nn75 : NoNaN64 (FP.dadd (FP.l2d ((own_v0_4 p0_0 p0_1) >>> ((1 : Int32).toInt64 &&& 63))) (own_j0_6 p0_0 p0_1))) (nn157 : NoNaN64 (FP.dmul (FP.l2d (own_v0_2 p0_0 p0_1)) (4607182418800017408 : UInt64))) (nn163 : NoNaN64 (FP.dmul (FP.l2d (own_v0_3 p0_0 p0_1)) (4607182418800017408 : UInt64))) (c164_hc43 : ¬ ((cmpValue (FP.dcmp (FP.dmul (FP.l2d (own_v0_2 p0_0 p0_1)) (4607182418800017408 : UInt64)) (0 : UInt64)) .l) < (0 : Int32))) (c164_hc52 : (cmpValue (FP.dcmp (FP.dmul (FP.l2d (own_v0_2 p0_0 p0_1)) (4607182418800017408 : UInt64)) (9218868437227405312 : UInt64)) .g) < (0 : Int32)) (c164_hc43_2 : ¬ ((cmpValue (FP.dcmp (FP.dmul (FP.l2d (own_v0_3 p0_0 p0_1)) (4607182418800017408 : UInt64)) (0 : UInt64)) .l) < (0 : Int32))) (c164_hc52_2 : (cmpValue (FP.dcmp (FP.dmul (FP.l2d (own_v0_3 p0_0 p0_1)) (4607182418800017408 : UInt64)) (9218868437227405312 : UInt64)) .g) < (0 : Int32)) (c164_hc79 : ¬ ((0 : Int32) < (cmpValue (FP.dcmp (FP.dmul (FP.l2d (own_v0_2 p0_0 p0_1)) (4607182418800017408 : UInt64)) (FP.dmul (FP.l2d (own_v0_3 p0_0 p0_1)) (4607182418800017408 : UInt64))) .l))) (c171_nn8 : NoNaN64 (FP.dadd (FP.dmul (FP.l2d (own_v0_2 p0_0 p0_1)) (4607182418800017408 : UInt64)) (FP.dmul (FP.l2d (own_v0_3 p0_0 p0_1)) (4607182418800017408 : UInt64)))) (c171_nn22 : (cmpValue (FP.dcmp (own_v6_0 (FP.dmul (FP.l2d (own_v0_2 p0_0 p0_1)) (4607182418800017408 : UInt64)) (FP.dmul (FP.l2d (own_v0_3 p0_0 p0_1)) (4607182418800017408 : UInt64))) (9218868437227405312 : UInt64)) .g) < (0 : Int32) → NoNaN64 (FP.ddiv (own_v6_0 (FP.dmul (FP.l2d (own_v0_2 p0_0 p0_1)) (4607182418800017408 : UInt64)) (FP.dmul (FP.l2d (own_v0_3 p0_0 p0_1)) (4607182418800017408 : UInt64))) (4611686018427387904 : UInt64))) (c171_nn33 : ¬ ((cmpValue (FP.dcmp (own_v6_0 (FP.dmul (FP.l2d (own_v0_2 p0_0 p0_1)) (4607182418800017408 : UInt64)) (FP.dmul (FP.l2d (own_v0_3 p0_0 p0_1)) (4607182418800017408 : UInt64))) (9218868437227405312 : UInt64)) .g) < (0 : Int32)) → NoNaN64 (FP.ddiv (FP.dmul (FP.l2d (own_v0_2 p0_0 p0_1)) (4607182418800017408 : UInt64)) (4611686018427387904 : UInt64))) (c171_nn41 : ¬ ((cmpValue (FP.dcmp (own_v6_0 (FP.dmul (FP.l2d (own_v0_2 p0_0 p0_1)) (4607182418800017408 : UInt64)) (FP.dmul (FP.l2d (own_v0_3 p0_0 p0_1)) (4607182418800017408 : UInt64))) (9218868437227405312 : UInt64)) .g) < (0 : Int32)) → NoNaN64 (FP.ddiv (FP.dmul (FP.l2d (own_v0_3 p0_0 p0_1)) (4607182418800017408 : UInt64)) (4611686018427387904 : UInt64))) (c171_nn42 : ¬ ((cmpValue (FP.dcmp (own_v6_0 (FP.dmul (FP.l2d (own_v0_2 p0_0 p0_1)) (4607182418800017408 : UInt64)) (FP.dmul (FP.l2d (own_v0_3 p0_0 p0_1)) (4607182418800017408 : UInt64))) (9218868437227405312 : UInt64)) .g) < (0 : Int32)) → NoNaN64 (FP.dadd (FP.ddiv (FP.dmul (FP.l2d (own_v0_2 p0_0 p0_1)) (4607182418800017408 : UInt64)) (4611686018427387904 : UInt64)) (FP.ddiv (FP.dmul (FP.l2d (own_v0_3 p0_0 p0_1)) (4607182418800017408 : UInt64)) (4611686018427387904 : UInt64)))) (hc177 : (cmpValue (FP.dcmp (own_r6_2 (FP.dmul (FP.l2d (own_v0_2 p0_0 p0_1)) (4607182418800017408 : UInt64)) (FP.dmul (FP.l2d (own_v0_3 p0_0 p0_1)) (4607182418800017408 : UInt64))) (own_v0_7 p0_0 p0_1)) .l) = (0 : Int32)) (nn98 : NoNaN64 (FP.dmul (FP.l2d (own_v0_4 p0_0 p0_1)) (9074753249151549440 : UInt64))) (nn157_2 : NoNaN64 (FP.dmul (FP.l2d (own_v0_2 p0_0 p0_1)) (9079256848778919936 : UInt64))) (nn163_2 : NoNaN64 (FP.dmul (FP.l2d (own_v0_3 p0_0 p0_1)) (9079256848778919936 : UInt64))) (c164_hc43_3 : ¬ ((cmpValue (FP.dcmp (FP.dmul (FP.l2d (own_v0_2 p0_0 p0_1)) (9079256848778919936 : UInt64)) (0 : UInt64)) .l) < (0 : Int32))) (c164_hc52_3 : (cmpValue (FP.dcmp (FP.dmul (FP.l2d (own_v0_2 p0_0 p0_1)) (9079256848778919936 : UInt64)) (9218868437227405312 : UInt64)) .g) < (0 : Int32)) (c164_hc43_2_2 : ¬ ((cmpValue (FP.dcmp (FP.dmul (FP.l2d (own_v0_3 p0_0 p0_1)) (9079256848778919936 : UInt64)) (0 : UInt64)) .l) < (0 : Int32))) (c164_hc52_2_2 : (cmpValue (FP.dcmp (FP.dmul (FP.l2d (own_v0_3 p0_0 p0_1)) (9079256848778919936 : UInt64)) (9218868437227405312 : UInt64)) .g) < (0 : Int32)) (c164_hc79_2 : ¬ ((0 : Int32) < (cmpValue (FP.dcmp (FP.dmul (FP.l2d (own_v0_2 p0_0 p0_1)) (9079256848778919936 : UInt64)) (FP.dmul (FP.l2d (own_v0_3 p0_0 p0_1)) (9079256848778919936 : UInt64))) .l))) (c171_nn8_2 : NoNaN64 (FP.dadd (FP.dmul (FP.l2d (own_v0_2 p0_0 p0_1)) (9079256848778919936 : UInt64)) (FP.dmul (FP.l2d (own_v0_3 p0_0 p0_1)) (9079256848778919936 : UInt64)))) (c171_nn22_2 : (cmpValue (FP.dcmp (own_v6_0 (FP.dmul (FP.l2d (own_v0_2 p0_0 p0_1)) (9079256848778919936 : UInt64)) (FP.dmul (FP.l2d (own_v0_3 p0_0 p0_1)) (9079256848778919936 : UInt64))) (9218868437227405312 : UInt64)) .g) < (0 : Int32) → NoNaN64 (FP.ddiv (own_v6_0 (FP.dmul (FP.l2d (own_v0_2 p0_0 p0_1)) (9079256848778919936 : UInt64)) (FP.dmul (FP.l2d (own_v0_3 p0_0 p0_1)) (9079256848778919936 : UInt64))) (4611686018427387904 : UInt64))) (c171_nn33_2 : ¬ ((cmpValue (FP.dcmp (own_v6_0 (FP.dmul (FP.l2d (own_v0_2 p0_0 p0_1)) (9079256848778919936 : UInt64)) (FP.dmul (FP.l2d (own_v0_3 p0_0 p0_1)) (9079256848778919936 : UInt64))) (9218868437227405312 : UInt64)) .g) < (0 : Int32)) → NoNaN64 (FP.ddiv (FP.dmul (FP.l2d (own_v0_2 p0_0 p0_1)) (9079256848778919936 : UInt64)) (4611686018427387904 : UInt64))) (c171_nn41_2 : ¬ ((cmpValue (FP.dcmp (own_v6_0 (FP.dmul (FP.l2d (own_v0_2 p0_0 p0_1)) (9079256848778919936 : UInt64)) (FP.dmul (FP.l2d (own_v0_3 p0_0 p0_1)) (9079256848778919936 : UInt64))) (9218868437227405312 : UInt64)) .g) < (0 : Int32)) → NoNaN64 (FP.ddiv (FP.dmul (FP.l2d (own_v0_3 p0_0 p0_1)) (9079256848778919936 : UInt64)) (4611686018427387904 : UInt64))) (c171_nn42_2 : ¬ ((cmpValue (FP.dcmp (own_v6_0 (FP.dmul (FP.l2d (own_v0_2 p0_0 p0_1)) (9079256848778919936 : UInt64)) (FP.dmul (FP.l2d (own_v0_3 p0_0 p0_1)) (9079256848778919936 : UInt64))) (9218868437227405312 : UInt64)) .g) < (0 : Int32)) → NoNaN64 (FP.dadd (FP.ddiv (FP.dmul (FP.l2d (own_v0_2 p0_0 p0_1)) (9079256848778919936 : UInt64)) (4611686018427387904 : UInt64)) (FP.ddiv (FP.dmul (FP.l2d (own_v0_3 p0_0 p0_1)) (9079256848778919936 : UInt64)) (4611686018427387904 : UInt64)))) (hc177_2 : (cmpValue (FP.dcmp (own_r6_2 (FP.dmul (FP.l2d (own_v0_2 p0_0 p0_1)) (9079256848778919936 : UInt64)) (FP.dmul (FP.l2d (own_v0_3 p0_0 p0_1)) (9079256848778919936 : UInt64))) (own_v0_8 p0_0 p0_1)) .l) = (0 : Int32)) (nn145 : NoNaN64 (FP.dmul (FP.l2d (own_j0_12 p0_0 p0_1)) (1 : UInt64))) (nn157_3 : NoNaN64 (FP.dmul (FP.l2d (own_v0_2 p0_0 p0_1)) (1 : UInt64))) (nn163_3 : NoNaN64 (FP.dmul (FP.l2d (own_v0_3 p0_0 p0_1)) (1 : UInt64))) (c164_hc43_4 : ¬ ((cmpValue (FP.dcmp (FP.dmul (FP.l2d (own_v0_2 p0_0 p0_1)) (1 : UInt64)) (0 : UInt64)) .l) < (0 : Int32))) (c164_hc52_4 : (cmpValue (FP.dcmp (FP.dmul (FP.l2d (own_v0_2 p0_0 p0_1)) (1 : UInt64)) (9218868437227405312 : UInt64)) .g) < (0 : Int32)) (c164_hc43_2_3 : ¬ ((cmpValue (FP.dcmp (FP.dmul (FP.l2d (own_v0_3 p0_0 p0_1)) (1 : UInt64)) (0 : UInt64)) .l) < (0 : Int32))) (c164_hc52_2_3 : (cmpValue (FP.dcmp (FP.dmul (FP.l2d (own_v0_3 p0_0 p0_1)) (1 : UInt64)) (9218868437227405312 : UInt64)) .g) < (0 : Int32)) (c164_hc79_3 : ¬ ((0 : Int32) < (cmpValue (FP.dcmp (FP.dmul (FP.l2d (own_v0_2 p0_0 p0_1)) (1 : UInt64)) (FP.dmul (FP.l2d (own_v0_3 p0_0 p0_1)) (1 : UInt64))) .l))) (c171_nn8_3 : NoNaN64 (FP.dadd (FP.dmul (FP.l2d (own_v0_2 p0_0 p0_1)) (1 : UInt64)) (FP.dmul (FP.l2d (own_v0_3 p0_0 p0_1)) (1 : UInt64)))) (c171_nn22_3 : (cmpValue (FP.dcmp (own_v6_0 (FP.dmul (FP.l2d (own_v0_2 p0_0 p0_1)) (1 : UInt64)) (FP.dmul (FP.l2d (own_v0_3 p0_0 p0_1)) (1 : UInt64))) (9218868437227405312 : UInt64)) .g) < (0 : Int32) → NoNaN64 (FP.ddiv (own_v6_0 (FP.dmul (FP.l2d (own_v0_2 p0_0 p0_1)) (1 : UInt64)) (FP.dmul (FP.l2d (own_v0_3 p0_0 p0_1)) (1 : UInt64))) (4611686018427387904 : UInt64))) (c171_nn33_3 : ¬ ((cmpValue (FP.dcmp (own_v6_0 (FP.dmul (FP.l2d (own_v0_2 p0_0 p0_1)) (1 : UInt64)) (FP.dmul (FP.l2d (own_v0_3 p0_0 p0_1)) (1 : UInt64))) (9218868437227405312 : UInt64)) .g) < (0 : Int32)) → NoNaN64 (FP.ddiv (FP.dmul (FP.l2d (own_v0_2 p0_0 p0_1)) (1 : UInt64)) (4611686018427387904 : UInt64))) (c171_nn41_3 : ¬ ((cmpValue (FP.dcmp (own_v6_0 (FP.dmul (FP.l2d (own_v0_2 p0_0 p0_1)) (1 : UInt64)) (FP.dmul (FP.l2d (own_v0_3 p0_0 p0_1)) (1 : UInt64))) (9218868437227405312 : UInt64)) .g) < (0 : Int32)) → NoNaN64 (FP.ddiv (FP.dmul (FP.l2d (own_v0_3 p0_0 p0_1)) (1 : UInt64)) (4611686018427387904 : UInt64))) (c171_nn42_3 : ¬ ((cmpValue (FP.dcmp (own_v6_0 (FP.dmul (FP.l2d (own_v0_2 p0_0 p0_1)) (1 : UInt64)) (FP.dmul (FP.l2d (own_v0_3 p0_0 p0_1)) (1 : UInt64))) (9218868437227405312 : UInt64)) .g) < (0 : Int32)) → NoNaN64 (FP.dadd (FP.ddiv (FP.dmul (FP.l2d (own_v0_2 p0_0 p0_1)) (1 : UInt64)) (4611686018427387904 : UInt64)) (FP.ddiv (FP.dmul (FP.l2d (own_v0_3 p0_0 p0_1)) (1 : UInt64)) (4611686018427387904 : UInt64)))) (hc177_3 : (cmpValue (FP.dcmp (own_r6_2 (FP.dmul (FP.l2d (own_v0_2 p0_0 p0_1)) (1 : UInt64)) (FP.dmul (FP.l2d (own_v0_3 p0_0 p0_1)) (1 : UInt64))) (own_v0_13 p0_0 p0_1)) .l) = (0 : Int32)) :
    MetFree l x (head1 (Jvm.Cond.code x code maxLocals ret :: ws) room_1) (fun a U => a = #[(.int p0_0), (.int p0_1), (.int p0_2)] ∧ Z.Warmed39 U.vm ∧ U.heap = h0) (fun _ _ _ _ _ => True) (fun _ U o U' => ∃ v L, o = .returned v ∧ own_Q0 Z p0_0 p0_1 p0_2 h0 n0 v U'.heap L ∧ FrameEnd U o U' L room_1.cells room_1.slots) := by
  refine MetFree.of_bodySF (plainFor_of_name own_pn2) hisR ?_
  intro p e s m args below meth c s₁ Bd hml0 hP hK
  obtain ⟨rfl, hZ, hh⟩ := hP
  have hx := Bd.exec
  have hby := Bd.bytes
  have hml : c.maxLocals = 20 := hml0
  have hown : s.vm.findClass "com/example/surepath/surepath/IntervalCentrePinLaw" = some m.cls := findClass_of_methodNamed Bd.named
  have hnm := (name_of_methodNamed Bd.named Bd.method).1
  have X0 : Stand p l e room_1 s m #[(.int p0_0), (.int p0_1), (.int p0_2)] below meth c s₁ [] 0 0 := Stand.of_body Bd
  have e0 : s₁.heap = h0 := by rw [← hh, Bd.state]; rfl
  have N0 := Fr.nil n0
  have Zr : h0.size ≤ h0.size := Nat.le_refl _
  have pre0 : ∀ t, Steps p.tables e below (s₁.setTop (mkF m 0 #[.val (.int p0_0), .val (.int p0_1), .val (.int p0_2), .unset, .unset, .unset, .unset, .unset, .unset, .unset, .unset, .unset, .unset, .unset, .unset, .unset, .unset, .unset, .unset, .unset] [])) t → Steps p.tables e below (s₁.setTop (entryFrame m #[(.int p0_0), (.int p0_1), (.int p0_2)] maxLocals)) t := fun t k => castTop (own_ef0 m p0_0 p0_1 p0_2) k
  obtain ⟨_, _, ⟨Tk0_1, Lk0_1, kk0_1, nk0_1⟩, -, Xk0_1, ⟨Lck0_1, hQk0_1, lk0_1, yk0_1, zk0_1⟩, stk0_1⟩ := Jvm.LawKit.callS X0 hx (y := (⟨"java/lang/Math", "min", "(JJ)J"⟩ : MethodName)) hown (mvT hZ (hw _ (List.mem_of_getElem? (i := 1) rfl))) (mvT hZ (hw _ (List.mem_of_getElem? (i := 2) rfl))) (mvT hZ (hw _ (List.mem_of_getElem? (i := 3) rfl))) (mvT hZ (hw _ (List.mem_of_getElem? (i := 4) rfl))) (by decide) (backOf (W := 0) (own_rm1 l Z a0 hw [] (own_v0_0 p0_0) (own_v0_1 p0_1) h0 n0 Z0) hZ (hw _ (List.mem_of_getElem? (i := 4) rfl)) (hw _ (List.mem_of_getElem? (i := 3) rfl)) (by decide) (by decide)) (g := (mkF m 18 #[.val (.int p0_0), .val (.int p0_1), .val (.int p0_2), .val (.long (own_v0_0 p0_0)), .second, .val (.long (own_v0_1 p0_1)), .second, .unset, .unset, .unset, .unset, .unset, .unset, .unset, .unset, .unset, .unset, .unset, .unset, .unset] [(.long (own_v0_1 p0_1)), (.long (own_v0_0 p0_0))])) rfl (by rw [hml]; rfl) (argsL := [(.long (own_v0_0 p0_0)), (.long (own_v0_1 p0_1))]) (rest := []) (lenOf own_pd1 rfl) rfl (by show 2 * 0 + _ ≤ _; exact Nat.le_of_eq rfl) (hb hby at_18) (fun _ _ => ⟨rfl, e0, (by decide : 0 + 0 ≤ _), (by decide : 0 + 0 ≤ _)⟩)
  dsimp only [Pt.U, Pt.locs, Pt.cells, Pt.slots] at Xk0_1 lk0_1 yk0_1 zk0_1 stk0_1 hQk0_1
  subst lk0_1 yk0_1 zk0_1
  obtain ⟨rfl, Nk0_1q, ek0_1⟩ := hQk0_1
  have Nk0_1 := Fr.app N0 Nk0_1q
  obtain ⟨_, _, ⟨Tk0_2, Lk0_2, kk0_2, nk0_2⟩, -, Xk0_2, ⟨Lck0_2, hQk0_2, lk0_2, yk0_2, zk0_2⟩, stk0_2⟩ := Jvm.LawKit.callS Xk0_1 hx (y := (⟨"java/lang/Math", "max", "(JJ)J"⟩ : MethodName)) hown (mvT hZ (hw _ (List.mem_of_getElem? (i := 5) rfl))) (mvT hZ (hw _ (List.mem_of_getElem? (i := 6) rfl))) (mvT hZ (hw _ (List.mem_of_getElem? (i := 3) rfl))) (mvT hZ (hw _ (List.mem_of_getElem? (i := 7) rfl))) (by decide) (backOf (W := 0) (own_rm2 l Z a0 hw [] (own_v0_0 p0_0) (own_v0_1 p0_1) h0 n0 Z0) hZ (hw _ (List.mem_of_getElem? (i := 7) rfl)) (hw _ (List.mem_of_getElem? (i := 3) rfl)) (by decide) (by decide)) (g := (mkF m 26 #[.val (.int p0_0), .val (.int p0_1), .val (.int p0_2), .val (.long (own_v0_0 p0_0)), .second, .val (.long (own_v0_1 p0_1)), .second, .val (.long (own_v0_2 p0_0 p0_1)), .second, .unset, .unset, .unset, .unset, .unset, .unset, .unset, .unset, .unset, .unset, .unset] [(.long (own_v0_1 p0_1)), (.long (own_v0_0 p0_0))])) rfl (by rw [hml]; rfl) (argsL := [(.long (own_v0_0 p0_0)), (.long (own_v0_1 p0_1))]) (rest := []) (lenOf own_pd1 rfl) rfl (by show 2 * 0 + _ ≤ _; exact Nat.le_of_eq rfl) (hb hby at_26) (fun _ _ => ⟨rfl, ek0_1, (by decide : 0 + 0 ≤ _), (by decide : 0 + 0 ≤ _)⟩)
  dsimp only [Pt.U, Pt.locs, Pt.cells, Pt.slots] at Xk0_2 lk0_2 yk0_2 zk0_2 stk0_2 hQk0_2
  subst lk0_2 yk0_2 zk0_2
  obtain ⟨rfl, Nk0_2q, ek0_2⟩ := hQk0_2
  have Nk0_2 := Fr.app Nk0_1 Nk0_2q
  have Ks0_3 : ∀ t, Steps p.tables e below (Tk0_2.setTop (mkF m 48 #[.val (.int p0_0), .val (.int p0_1), .val (.int p0_2), .val (.long (own_v0_0 p0_0)), .second, .val (.long (own_v0_1 p0_1)), .second, .val (.long (own_v0_2 p0_0 p0_1)), .second, .val (.long (own_v0_3 p0_0 p0_1)), .second, .val (.long (own_v0_4 p0_0 p0_1)), .second, .val (.int (own_v0_5 p0_2)), .unset, .unset, .unset, .unset, .unset, .unset] [(.int (own_v0_5 p0_2))])) t → Steps p.tables e below (s₁.setTop (mkF m 0 #[.val (.int p0_0), .val (.int p0_1), .val (.int p0_2), .unset, .unset, .unset, .unset, .unset, .unset, .unset, .unset, .unset, .unset, .unset, .unset, .unset, .unset, .unset, .unset, .unset] [])) t := by
    intro t kt
    show Steps p.tables e below (s₁.setTop (mkF m 0 #[.val (.int p0_0), .val (.int p0_1), .val (.int p0_2), .unset, .unset, .unset, .unset, .unset, .unset, .unset, .unset, .unset, .unset, .unset, .unset, .unset, .unset, .unset, .unset, .unset] [])) _
    refine XS.iloadN X0.here hx rfl (hb hby at_0) rfl ?_
    show Steps p.tables e below (s₁.setTop (mkF m 1 #[.val (.int p0_0), .val (.int p0_1), .val (.int p0_2), .unset, .unset, .unset, .unset, .unset, .unset, .unset, .unset, .unset, .unset, .unset, .unset, .unset, .unset, .unset, .unset, .unset] [(.int p0_0)])) _
    refine XT.i2l X0.here hx rfl (hb hby at_1) rfl ?_
    show Steps p.tables e below (s₁.setTop (mkF m 2 #[.val (.int p0_0), .val (.int p0_1), .val (.int p0_2), .unset, .unset, .unset, .unset, .unset, .unset, .unset, .unset, .unset, .unset, .unset, .unset, .unset, .unset, .unset, .unset, .unset] [(.long p0_0.toInt64)])) _
    refine X0.ldc2Long hx hown (mvT hZ (hw _ (List.mem_of_getElem? (i := 0) rfl))) (g := (mkF m 2 #[.val (.int p0_0), .val (.int p0_1), .val (.int p0_2), .unset, .unset, .unset, .unset, .unset, .unset, .unset, .unset, .unset, .unset, .unset, .unset, .unset, .unset, .unset, .unset, .unset] [(.long p0_0.toInt64)])) rfl (hb hby at_2) _ ?_
    show Steps p.tables e below (s₁.setTop (mkF m 5 #[.val (.int p0_0), .val (.int p0_1), .val (.int p0_2), .unset, .unset, .unset, .unset, .unset, .unset, .unset, .unset, .unset, .unset, .unset, .unset, .unset, .unset, .unset, .unset, .unset] [(.long (2147483647 : Int64)), (.long p0_0.toInt64)])) _
    refine XT.land X0.here hx rfl (hb hby at_5) rfl ?_
    show Steps p.tables e below (s₁.setTop (mkF m 6 #[.val (.int p0_0), .val (.int p0_1), .val (.int p0_2), .unset, .unset, .unset, .unset, .unset, .unset, .unset, .unset, .unset, .unset, .unset, .unset, .unset, .unset, .unset, .unset, .unset] [(.long (p0_0.toInt64 &&& (2147483647 : Int64)))])) _
    refine XT.lstoreN X0.here hx rfl (hb hby at_6) rfl (l' := #[.val (.int p0_0), .val (.int p0_1), .val (.int p0_2), .val (.long (own_v0_0 p0_0)), .second, .unset, .unset, .unset, .unset, .unset, .unset, .unset, .unset, .unset, .unset, .unset, .unset, .unset, .unset, .unset]) rfl ?_
    show Steps p.tables e below (s₁.setTop (mkF m 7 #[.val (.int p0_0), .val (.int p0_1), .val (.int p0_2), .val (.long (own_v0_0 p0_0)), .second, .unset, .unset, .unset, .unset, .unset, .unset, .unset, .unset, .unset, .unset, .unset, .unset, .unset, .unset, .unset] [])) _
    refine XS.iloadN X0.here hx rfl (hb hby at_7) rfl ?_
    show Steps p.tables e below (s₁.setTop (mkF m 8 #[.val (.int p0_0), .val (.int p0_1), .val (.int p0_2), .val (.long (own_v0_0 p0_0)), .second, .unset, .unset, .unset, .unset, .unset, .unset, .unset, .unset, .unset, .unset, .unset, .unset, .unset, .unset, .unset] [(.int p0_1)])) _
    refine XT.i2l X0.here hx rfl (hb hby at_8) rfl ?_
    show Steps p.tables e below (s₁.setTop (mkF m 9 #[.val (.int p0_0), .val (.int p0_1), .val (.int p0_2), .val (.long (own_v0_0 p0_0)), .second, .unset, .unset, .unset, .unset, .unset, .unset, .unset, .unset, .unset, .unset, .unset, .unset, .unset, .unset, .unset] [(.long p0_1.toInt64)])) _
    refine X0.ldc2Long hx hown (mvT hZ (hw _ (List.mem_of_getElem? (i := 0) rfl))) (g := (mkF m 9 #[.val (.int p0_0), .val (.int p0_1), .val (.int p0_2), .val (.long (own_v0_0 p0_0)), .second, .unset, .unset, .unset, .unset, .unset, .unset, .unset, .unset, .unset, .unset, .unset, .unset, .unset, .unset, .unset] [(.long p0_1.toInt64)])) rfl (hb hby at_9) _ ?_
    show Steps p.tables e below (s₁.setTop (mkF m 12 #[.val (.int p0_0), .val (.int p0_1), .val (.int p0_2), .val (.long (own_v0_0 p0_0)), .second, .unset, .unset, .unset, .unset, .unset, .unset, .unset, .unset, .unset, .unset, .unset, .unset, .unset, .unset, .unset] [(.long (2147483647 : Int64)), (.long p0_1.toInt64)])) _
    refine XT.land X0.here hx rfl (hb hby at_12) rfl ?_
    show Steps p.tables e below (s₁.setTop (mkF m 13 #[.val (.int p0_0), .val (.int p0_1), .val (.int p0_2), .val (.long (own_v0_0 p0_0)), .second, .unset, .unset, .unset, .unset, .unset, .unset, .unset, .unset, .unset, .unset, .unset, .unset, .unset, .unset, .unset] [(.long (p0_1.toInt64 &&& (2147483647 : Int64)))])) _
    refine XT.lstore X0.here hx rfl (hb hby at_13) rfl (l' := #[.val (.int p0_0), .val (.int p0_1), .val (.int p0_2), .val (.long (own_v0_0 p0_0)), .second, .val (.long (own_v0_1 p0_1)), .second, .unset, .unset, .unset, .unset, .unset, .unset, .unset, .unset, .unset, .unset, .unset, .unset, .unset]) rfl ?_
    show Steps p.tables e below (s₁.setTop (mkF m 15 #[.val (.int p0_0), .val (.int p0_1), .val (.int p0_2), .val (.long (own_v0_0 p0_0)), .second, .val (.long (own_v0_1 p0_1)), .second, .unset, .unset, .unset, .unset, .unset, .unset, .unset, .unset, .unset, .unset, .unset, .unset, .unset] [])) _
    refine XT.lloadN X0.here hx rfl (hb hby at_15) rfl ?_
    show Steps p.tables e below (s₁.setTop (mkF m 16 #[.val (.int p0_0), .val (.int p0_1), .val (.int p0_2), .val (.long (own_v0_0 p0_0)), .second, .val (.long (own_v0_1 p0_1)), .second, .unset, .unset, .unset, .unset, .unset, .unset, .unset, .unset, .unset, .unset, .unset, .unset, .unset] [(.long (own_v0_0 p0_0))])) _
    refine XT.lload X0.here hx rfl (hb hby at_16) rfl ?_
    show Steps p.tables e below (s₁.setTop (mkF m 18 #[.val (.int p0_0), .val (.int p0_1), .val (.int p0_2), .val (.long (own_v0_0 p0_0)), .second, .val (.long (own_v0_1 p0_1)), .second, .unset, .unset, .unset, .unset, .unset, .unset, .unset, .unset, .unset, .unset, .unset, .unset, .unset] [(.long (own_v0_1 p0_1)), (.long (own_v0_0 p0_0))])) _
    refine stk0_1 _ ?_
    show Steps p.tables e below (Tk0_1.setTop (mkF m 21 #[.val (.int p0_0), .val (.int p0_1), .val (.int p0_2), .val (.long (own_v0_0 p0_0)), .second, .val (.long (own_v0_1 p0_1)), .second, .unset, .unset, .unset, .unset, .unset, .unset, .unset, .unset, .unset, .unset, .unset, .unset, .unset] [(.long (own_j1_0 (own_v0_0 p0_0) (own_v0_1 p0_1)))])) _
    refine XT.lstore Xk0_1.here hx rfl (hb hby at_21) rfl (l' := #[.val (.int p0_0), .val (.int p0_1), .val (.int p0_2), .val (.long (own_v0_0 p0_0)), .second, .val (.long (own_v0_1 p0_1)), .second, .val (.long (own_v0_2 p0_0 p0_1)), .second, .unset, .unset, .unset, .unset, .unset, .unset, .unset, .unset, .unset, .unset, .unset]) rfl ?_
    show Steps p.tables e below (Tk0_1.setTop (mkF m 23 #[.val (.int p0_0), .val (.int p0_1), .val (.int p0_2), .val (.long (own_v0_0 p0_0)), .second, .val (.long (own_v0_1 p0_1)), .second, .val (.long (own_v0_2 p0_0 p0_1)), .second, .unset, .unset, .unset, .unset, .unset, .unset, .unset, .unset, .unset, .unset, .unset] [])) _
    refine XT.lloadN Xk0_1.here hx rfl (hb hby at_23) rfl ?_
    show Steps p.tables e below (Tk0_1.setTop (mkF m 24 #[.val (.int p0_0), .val (.int p0_1), .val (.int p0_2), .val (.long (own_v0_0 p0_0)), .second, .val (.long (own_v0_1 p0_1)), .second, .val (.long (own_v0_2 p0_0 p0_1)), .second, .unset, .unset, .unset, .unset, .unset, .unset, .unset, .unset, .unset, .unset, .unset] [(.long (own_v0_0 p0_0))])) _
    refine XT.lload Xk0_1.here hx rfl (hb hby at_24) rfl ?_
    show Steps p.tables e below (Tk0_1.setTop (mkF m 26 #[.val (.int p0_0), .val (.int p0_1), .val (.int p0_2), .val (.long (own_v0_0 p0_0)), .second, .val (.long (own_v0_1 p0_1)), .second, .val (.long (own_v0_2 p0_0 p0_1)), .second, .unset, .unset, .unset, .unset, .unset, .unset, .unset, .unset, .unset, .unset, .unset] [(.long (own_v0_1 p0_1)), (.long (own_v0_0 p0_0))])) _
    refine stk0_2 _ ?_
    show Steps p.tables e below (Tk0_2.setTop (mkF m 29 #[.val (.int p0_0), .val (.int p0_1), .val (.int p0_2), .val (.long (own_v0_0 p0_0)), .second, .val (.long (own_v0_1 p0_1)), .second, .val (.long (own_v0_2 p0_0 p0_1)), .second, .unset, .unset, .unset, .unset, .unset, .unset, .unset, .unset, .unset, .unset, .unset] [(.long (own_j2_0 (own_v0_0 p0_0) (own_v0_1 p0_1)))])) _
    refine XT.lstore Xk0_2.here hx rfl (hb hby at_29) rfl (l' := #[.val (.int p0_0), .val (.int p0_1), .val (.int p0_2), .val (.long (own_v0_0 p0_0)), .second, .val (.long (own_v0_1 p0_1)), .second, .val (.long (own_v0_2 p0_0 p0_1)), .second, .val (.long (own_v0_3 p0_0 p0_1)), .second, .unset, .unset, .unset, .unset, .unset, .unset, .unset, .unset, .unset]) rfl ?_
    show Steps p.tables e below (Tk0_2.setTop (mkF m 31 #[.val (.int p0_0), .val (.int p0_1), .val (.int p0_2), .val (.long (own_v0_0 p0_0)), .second, .val (.long (own_v0_1 p0_1)), .second, .val (.long (own_v0_2 p0_0 p0_1)), .second, .val (.long (own_v0_3 p0_0 p0_1)), .second, .unset, .unset, .unset, .unset, .unset, .unset, .unset, .unset, .unset] [])) _
    refine XT.lload Xk0_2.here hx rfl (hb hby at_31) rfl ?_
    show Steps p.tables e below (Tk0_2.setTop (mkF m 33 #[.val (.int p0_0), .val (.int p0_1), .val (.int p0_2), .val (.long (own_v0_0 p0_0)), .second, .val (.long (own_v0_1 p0_1)), .second, .val (.long (own_v0_2 p0_0 p0_1)), .second, .val (.long (own_v0_3 p0_0 p0_1)), .second, .unset, .unset, .unset, .unset, .unset, .unset, .unset, .unset, .unset] [(.long (own_v0_2 p0_0 p0_1))])) _
    refine XT.lload Xk0_2.here hx rfl (hb hby at_33) rfl ?_
    show Steps p.tables e below (Tk0_2.setTop (mkF m 35 #[.val (.int p0_0), .val (.int p0_1), .val (.int p0_2), .val (.long (own_v0_0 p0_0)), .second, .val (.long (own_v0_1 p0_1)), .second, .val (.long (own_v0_2 p0_0 p0_1)), .second, .val (.long (own_v0_3 p0_0 p0_1)), .second, .unset, .unset, .unset, .unset, .unset, .unset, .unset, .unset, .unset] [(.long (own_v0_3 p0_0 p0_1)), (.long (own_v0_2 p0_0 p0_1))])) _
    refine XT.ladd Xk0_2.here hx rfl (hb hby at_35) rfl ?_
    show Steps p.tables e below (Tk0_2.setTop (mkF m 36 #[.val (.int p0_0), .val (.int p0_1), .val (.int p0_2), .val (.long (own_v0_0 p0_0)), .second, .val (.long (own_v0_1 p0_1)), .second, .val (.long (own_v0_2 p0_0 p0_1)), .second, .val (.long (own_v0_3 p0_0 p0_1)), .second, .unset, .unset, .unset, .unset, .unset, .unset, .unset, .unset, .unset] [(.long ((own_v0_2 p0_0 p0_1) + (own_v0_3 p0_0 p0_1)))])) _
    refine XT.lstore Xk0_2.here hx rfl (hb hby at_36) rfl (l' := #[.val (.int p0_0), .val (.int p0_1), .val (.int p0_2), .val (.long (own_v0_0 p0_0)), .second, .val (.long (own_v0_1 p0_1)), .second, .val (.long (own_v0_2 p0_0 p0_1)), .second, .val (.long (own_v0_3 p0_0 p0_1)), .second, .val (.long (own_v0_4 p0_0 p0_1)), .second, .unset, .unset, .unset, .unset, .unset, .unset, .unset]) rfl ?_
    show Steps p.tables e below (Tk0_2.setTop (mkF m 38 #[.val (.int p0_0), .val (.int p0_1), .val (.int p0_2), .val (.long (own_v0_0 p0_0)), .second, .val (.long (own_v0_1 p0_1)), .second, .val (.long (own_v0_2 p0_0 p0_1)), .second, .val (.long (own_v0_3 p0_0 p0_1)), .second, .val (.long (own_v0_4 p0_0 p0_1)), .second, .unset, .unset, .unset, .unset, .unset, .unset, .unset] [])) _
    refine XS.iloadN Xk0_2.here hx rfl (hb hby at_38) rfl ?_
    show Steps p.tables e below (Tk0_2.setTop (mkF m 39 #[.val (.int p0_0), .val (.int p0_1), .val (.int p0_2), .val (.long (own_v0_0 p0_0)), .second, .val (.long (own_v0_1 p0_1)), .second, .val (.long (own_v0_2 p0_0 p0_1)), .second, .val (.long (own_v0_3 p0_0 p0_1)), .second, .val (.long (own_v0_4 p0_0 p0_1)), .second, .unset, .unset, .unset, .unset, .unset, .unset, .unset] [(.int p0_2)])) _
    refine Xk0_2.ldcInt hx hown (mvT hZ (hw _ (List.mem_of_getElem? (i := 8) rfl))) (g := (mkF m 39 #[.val (.int p0_0), .val (.int p0_1), .val (.int p0_2), .val (.long (own_v0_0 p0_0)), .second, .val (.long (own_v0_1 p0_1)), .second, .val (.long (own_v0_2 p0_0 p0_1)), .second, .val (.long (own_v0_3 p0_0 p0_1)), .second, .val (.long (own_v0_4 p0_0 p0_1)), .second, .unset, .unset, .unset, .unset, .unset, .unset, .unset] [(.int p0_2)])) rfl (hb hby at_39) _ ?_
    show Steps p.tables e below (Tk0_2.setTop (mkF m 41 #[.val (.int p0_0), .val (.int p0_1), .val (.int p0_2), .val (.long (own_v0_0 p0_0)), .second, .val (.long (own_v0_1 p0_1)), .second, .val (.long (own_v0_2 p0_0 p0_1)), .second, .val (.long (own_v0_3 p0_0 p0_1)), .second, .val (.long (own_v0_4 p0_0 p0_1)), .second, .unset, .unset, .unset, .unset, .unset, .unset, .unset] [(.int (2147483647 : Int32)), (.int p0_2)])) _
    refine XS.iand Xk0_2.here hx rfl (hb hby at_41) rfl ?_
    show Steps p.tables e below (Tk0_2.setTop (mkF m 42 #[.val (.int p0_0), .val (.int p0_1), .val (.int p0_2), .val (.long (own_v0_0 p0_0)), .second, .val (.long (own_v0_1 p0_1)), .second, .val (.long (own_v0_2 p0_0 p0_1)), .second, .val (.long (own_v0_3 p0_0 p0_1)), .second, .val (.long (own_v0_4 p0_0 p0_1)), .second, .unset, .unset, .unset, .unset, .unset, .unset, .unset] [(.int (p0_2 &&& (2147483647 : Int32)))])) _
    refine XS.iconst Xk0_2.here hx rfl (hb hby at_42) ?_
    show Steps p.tables e below (Tk0_2.setTop (mkF m 43 #[.val (.int p0_0), .val (.int p0_1), .val (.int p0_2), .val (.long (own_v0_0 p0_0)), .second, .val (.long (own_v0_1 p0_1)), .second, .val (.long (own_v0_2 p0_0 p0_1)), .second, .val (.long (own_v0_3 p0_0 p0_1)), .second, .val (.long (own_v0_4 p0_0 p0_1)), .second, .unset, .unset, .unset, .unset, .unset, .unset, .unset] [(.int (3 : Int32)), (.int (p0_2 &&& (2147483647 : Int32)))])) _
    refine XS.irem Xk0_2.here hx rfl (hb hby at_43) rfl (by decide) ?_
    show Steps p.tables e below (Tk0_2.setTop (mkF m 44 #[.val (.int p0_0), .val (.int p0_1), .val (.int p0_2), .val (.long (own_v0_0 p0_0)), .second, .val (.long (own_v0_1 p0_1)), .second, .val (.long (own_v0_2 p0_0 p0_1)), .second, .val (.long (own_v0_3 p0_0 p0_1)), .second, .val (.long (own_v0_4 p0_0 p0_1)), .second, .unset, .unset, .unset, .unset, .unset, .unset, .unset] [(.int ((p0_2 &&& (2147483647 : Int32)) - ((p0_2 &&& (2147483647 : Int32)) / (3 : Int32)) * (3 : Int32)))])) _
    refine XS.istore Xk0_2.here hx rfl (hb hby at_44) rfl (l' := #[.val (.int p0_0), .val (.int p0_1), .val (.int p0_2), .val (.long (own_v0_0 p0_0)), .second, .val (.long (own_v0_1 p0_1)), .second, .val (.long (own_v0_2 p0_0 p0_1)), .second, .val (.long (own_v0_3 p0_0 p0_1)), .second, .val (.long (own_v0_4 p0_0 p0_1)), .second, .val (.int (own_v0_5 p0_2)), .unset, .unset, .unset, .unset, .unset, .unset]) rfl ?_
    show Steps p.tables e below (Tk0_2.setTop (mkF m 46 #[.val (.int p0_0), .val (.int p0_1), .val (.int p0_2), .val (.long (own_v0_0 p0_0)), .second, .val (.long (own_v0_1 p0_1)), .second, .val (.long (own_v0_2 p0_0 p0_1)), .second, .val (.long (own_v0_3 p0_0 p0_1)), .second, .val (.long (own_v0_4 p0_0 p0_1)), .second, .val (.int (own_v0_5 p0_2)), .unset, .unset, .unset, .unset, .unset, .unset] [])) _
    refine XS.iload Xk0_2.here hx rfl (hb hby at_46) rfl ?_
    exact kt
  by_cases hs0_3 : (own_v0_5 p0_2) = (0 : Int32)
  · have K0_4 : ∀ t, Steps p.tables e below (Tk0_2.setTop (mkF m 51 #[.val (.int p0_0), .val (.int p0_1), .val (.int p0_2), .val (.long (own_v0_0 p0_0)), .second, .val (.long (own_v0_1 p0_1)), .second, .val (.long (own_v0_2 p0_0 p0_1)), .second, .val (.long (own_v0_3 p0_0 p0_1)), .second, .val (.long (own_v0_4 p0_0 p0_1)), .second, .val (.int (own_v0_5 p0_2)), .unset, .unset, .unset, .unset, .unset, .unset] [])) t → Steps p.tables e below (Tk0_2.setTop (mkF m 48 #[.val (.int p0_0), .val (.int p0_1), .val (.int p0_2), .val (.long (own_v0_0 p0_0)), .second, .val (.long (own_v0_1 p0_1)), .second, .val (.long (own_v0_2 p0_0 p0_1)), .second, .val (.long (own_v0_3 p0_0 p0_1)), .second, .val (.long (own_v0_4 p0_0 p0_1)), .second, .val (.int (own_v0_5 p0_2)), .unset, .unset, .unset, .unset, .unset, .unset] [(.int (own_v0_5 p0_2))])) t := by
      intro t kt
      show Steps p.tables e below (Tk0_2.setTop (mkF m 48 #[.val (.int p0_0), .val (.int p0_1), .val (.int p0_2), .val (.long (own_v0_0 p0_0)), .second, .val (.long (own_v0_1 p0_1)), .second, .val (.long (own_v0_2 p0_0 p0_1)), .second, .val (.long (own_v0_3 p0_0 p0_1)), .second, .val (.long (own_v0_4 p0_0 p0_1)), .second, .val (.int (own_v0_5 p0_2)), .unset, .unset, .unset, .unset, .unset, .unset] [(.int (own_v0_5 p0_2))])) _
      refine XS.ifNo Xk0_2.here hx rfl (hb hby at_48) rfl (XT.i0_ne_f hs0_3) ?_
      exact kt
    obtain ⟨Tj0_5, lj0_5, Xj0_5, Nj0_5, ej0_5, stj0_5⟩ : ∃ (T' : State) (l' : List Loc), Stand p l e room_1 s m #[(.int p0_0), (.int p0_1), (.int p0_2)] below meth c T' l' 0 0 ∧ Fr n0 l' ∧ T'.heap = h0 ∧ ∀ target, Steps p.tables e below (T'.setTop (mkF m 75 #[.val (.int p0_0), .val (.int p0_1), .val (.int p0_2), .val (.long (own_v0_0 p0_0)), .second, .val (.long (own_v0_1 p0_1)), .second, .val (.long (own_v0_2 p0_0 p0_1)), .second, .val (.long (own_v0_3 p0_0 p0_1)), .second, .val (.long (own_v0_4 p0_0 p0_1)), .second, .val (.int (own_v0_5 p0_2)), .val (.double (4607182418800017408 : UInt64)), .second, .unset, .unset, .unset, .unset] [(.double (own_j0_6 p0_0 p0_1)), (.double (FP.l2d ((own_v0_4 p0_0 p0_1) >>> ((1 : Int32).toInt64 &&& 63))))])) target → Steps p.tables e below (Tk0_2.setTop (mkF m 65 #[.val (.int p0_0), .val (.int p0_1), .val (.int p0_2), .val (.long (own_v0_0 p0_0)), .second, .val (.long (own_v0_1 p0_1)), .second, .val (.long (own_v0_2 p0_0 p0_1)), .second, .val (.long (own_v0_3 p0_0 p0_1)), .second, .val (.long (own_v0_4 p0_0 p0_1)), .second, .val (.int (own_v0_5 p0_2)), .val (.double (4607182418800017408 : UInt64)), .second, .unset, .unset, .unset, .unset] [(.int (XT.cmpL ((own_v0_4 p0_0 p0_1) &&& (1 : Int64)) (0 : Int64))), (.double (FP.l2d ((own_v0_4 p0_0 p0_1) >>> ((1 : Int32).toInt64 &&& 63))))])) target := by
      by_cases hj0_5 : ((own_v0_4 p0_0 p0_1) &&& (1 : Int64)) = (0 : Int64)
      · refine ⟨_, _, Xk0_2, Nk0_2, ek0_2, fun target kt => ?_⟩
        rw [(show (own_j0_6 p0_0 p0_1) = (0 : UInt64) from if_pos hj0_5)] at kt
        show Steps p.tables e below (Tk0_2.setTop (mkF m 65 #[.val (.int p0_0), .val (.int p0_1), .val (.int p0_2), .val (.long (own_v0_0 p0_0)), .second, .val (.long (own_v0_1 p0_1)), .second, .val (.long (own_v0_2 p0_0 p0_1)), .second, .val (.long (own_v0_3 p0_0 p0_1)), .second, .val (.long (own_v0_4 p0_0 p0_1)), .second, .val (.int (own_v0_5 p0_2)), .val (.double (4607182418800017408 : UInt64)), .second, .unset, .unset, .unset, .unset] [(.int (XT.cmpL ((own_v0_4 p0_0 p0_1) &&& (1 : Int64)) (0 : Int64))), (.double (FP.l2d ((own_v0_4 p0_0 p0_1) >>> ((1 : Int32).toInt64 &&& 63))))])) _
        refine XS.ifYes Xk0_2.here hx rfl (pc0 := 65) (pc' := 74) rfl (hb hby at_65) rfl (XT.ll_eq_t hj0_5) (by decide) (by decide) ?_
        show Steps p.tables e below (Tk0_2.setTop (mkF m 74 #[.val (.int p0_0), .val (.int p0_1), .val (.int p0_2), .val (.long (own_v0_0 p0_0)), .second, .val (.long (own_v0_1 p0_1)), .second, .val (.long (own_v0_2 p0_0 p0_1)), .second, .val (.long (own_v0_3 p0_0 p0_1)), .second, .val (.long (own_v0_4 p0_0 p0_1)), .second, .val (.int (own_v0_5 p0_2)), .val (.double (4607182418800017408 : UInt64)), .second, .unset, .unset, .unset, .unset] [(.double (FP.l2d ((own_v0_4 p0_0 p0_1) >>> ((1 : Int32).toInt64 &&& 63))))])) _
        refine XS.dconst0 Xk0_2.here hx rfl (hb hby at_74) (v := (0 : UInt64)) (by decide +kernel) ?_
        exact kt
      · refine ⟨_, _, Xk0_2, Nk0_2, ek0_2, fun target kt => ?_⟩
        rw [(show (own_j0_6 p0_0 p0_1) = (4602678819172646912 : UInt64) from if_neg hj0_5)] at kt
        show Steps p.tables e below (Tk0_2.setTop (mkF m 65 #[.val (.int p0_0), .val (.int p0_1), .val (.int p0_2), .val (.long (own_v0_0 p0_0)), .second, .val (.long (own_v0_1 p0_1)), .second, .val (.long (own_v0_2 p0_0 p0_1)), .second, .val (.long (own_v0_3 p0_0 p0_1)), .second, .val (.long (own_v0_4 p0_0 p0_1)), .second, .val (.int (own_v0_5 p0_2)), .val (.double (4607182418800017408 : UInt64)), .second, .unset, .unset, .unset, .unset] [(.int (XT.cmpL ((own_v0_4 p0_0 p0_1) &&& (1 : Int64)) (0 : Int64))), (.double (FP.l2d ((own_v0_4 p0_0 p0_1) >>> ((1 : Int32).toInt64 &&& 63))))])) _
        refine XS.ifNo Xk0_2.here hx rfl (hb hby at_65) rfl (XT.ll_eq_f hj0_5) ?_
        show Steps p.tables e below (Tk0_2.setTop (mkF m 68 #[.val (.int p0_0), .val (.int p0_1), .val (.int p0_2), .val (.long (own_v0_0 p0_0)), .second, .val (.long (own_v0_1 p0_1)), .second, .val (.long (own_v0_2 p0_0 p0_1)), .second, .val (.long (own_v0_3 p0_0 p0_1)), .second, .val (.long (own_v0_4 p0_0 p0_1)), .second, .val (.int (own_v0_5 p0_2)), .val (.double (4607182418800017408 : UInt64)), .second, .unset, .unset, .unset, .unset] [(.double (FP.l2d ((own_v0_4 p0_0 p0_1) >>> ((1 : Int32).toInt64 &&& 63))))])) _
        refine Xk0_2.ldc2DoubleC hx hown (mvT hZ (hw _ (List.mem_of_getElem? (i := 36) rfl))) (g := (mkF m 68 #[.val (.int p0_0), .val (.int p0_1), .val (.int p0_2), .val (.long (own_v0_0 p0_0)), .second, .val (.long (own_v0_1 p0_1)), .second, .val (.long (own_v0_2 p0_0 p0_1)), .second, .val (.long (own_v0_3 p0_0 p0_1)), .second, .val (.long (own_v0_4 p0_0 p0_1)), .second, .val (.int (own_v0_5 p0_2)), .val (.double (4607182418800017408 : UInt64)), .second, .unset, .unset, .unset, .unset] [(.double (FP.l2d ((own_v0_4 p0_0 p0_1) >>> ((1 : Int32).toInt64 &&& 63))))])) rfl (hb hby at_68) _ ?_
        show Steps p.tables e below (Tk0_2.setTop (mkF m 71 #[.val (.int p0_0), .val (.int p0_1), .val (.int p0_2), .val (.long (own_v0_0 p0_0)), .second, .val (.long (own_v0_1 p0_1)), .second, .val (.long (own_v0_2 p0_0 p0_1)), .second, .val (.long (own_v0_3 p0_0 p0_1)), .second, .val (.long (own_v0_4 p0_0 p0_1)), .second, .val (.int (own_v0_5 p0_2)), .val (.double (4607182418800017408 : UInt64)), .second, .unset, .unset, .unset, .unset] [(.double (4602678819172646912 : UInt64)), (.double (FP.l2d ((own_v0_4 p0_0 p0_1) >>> ((1 : Int32).toInt64 &&& 63))))])) _
        refine XS.goto Xk0_2.here hx rfl (pc0 := 71) (pc' := 75) rfl (hb hby at_71) (by decide) (by decide) ?_
        exact kt
    obtain ⟨Tn0_6, hn0_6, Xn0_6, en0_6, En0_6, An0_6, Dn0_6, -, stn0_6⟩ := newO Xj0_5 hx hZ hown (hw _ (List.mem_of_getElem? (i := 10) rfl)) (hw _ (List.mem_of_getElem? (i := 11) rfl)) (hw _ (List.mem_of_getElem? (i := 12) rfl)) ej0_5 (g := (mkF m 148 #[.val (.int p0_0), .val (.int p0_1), .val (.int p0_2), .val (.long (own_v0_0 p0_0)), .second, .val (.long (own_v0_1 p0_1)), .second, .val (.long (own_v0_2 p0_0 p0_1)), .second, .val (.long (own_v0_3 p0_0 p0_1)), .second, .val (.long (own_v0_4 p0_0 p0_1)), .second, .val (.int (own_v0_5 p0_2)), .val (.double (4607182418800017408 : UInt64)), .second, .val (.double (own_v0_7 p0_0 p0_1)), .second, .unset, .unset] [])) rfl (hb hby at_148) (by decide) (by decide)
    obtain ⟨bn0_6, gn0_6⟩ : ∃ z, z = h0.size := ⟨_, rfl⟩
    rw [← gn0_6] at An0_6 Dn0_6 stn0_6
    have g_bn0_6 : n0 ≤ bn0_6 := Nat.le_trans Z0 (Nat.le_of_eq gn0_6.symm)
    have sz_bn0_6 : h0.size ≤ bn0_6 := Nat.le_trans Zr (Nat.le_of_eq gn0_6.symm)
    have sz0_7 : h0.size ≤ hn0_6.size := Nat.le_trans Zr En0_6.1
    have F_lower_bn0_6 : Fld Z hn0_6 bn0_6 "com/example/surepath/surepath/Interval" "lower" "D" (.double (0 : UInt64)) := Dn0_6 (Or.inr (hw _ (List.mem_of_getElem? (i := 27) rfl))) (ty := .double) (by decide)
    have F_upper_bn0_6 : Fld Z hn0_6 bn0_6 "com/example/surepath/surepath/Interval" "upper" "D" (.double (0 : UInt64)) := Dn0_6 (Or.inr (hw _ (List.mem_of_getElem? (i := 29) rfl))) (ty := .double) (by decide)
    obtain ⟨_, _, ⟨Tk0_8, Lk0_8, kk0_8, nk0_8⟩, -, Xk0_8, ⟨Lck0_8, hQk0_8, lk0_8, yk0_8, zk0_8⟩, stk0_8⟩ := Xn0_6.specialBack hx (y := (⟨"com/example/surepath/surepath/Interval", "<init>", "(DD)V"⟩ : MethodName)) rfl hown (mvT hZ (hw _ (List.mem_of_getElem? (i := 13) rfl))) (mvT hZ (hw _ (List.mem_of_getElem? (i := 14) rfl))) (mvT hZ (hw _ (List.mem_of_getElem? (i := 15) rfl))) (by decide) (backOf (W := 1) (own_rm3 l Z a0 hw [] bn0_6 (FP.dmul (FP.l2d (own_v0_2 p0_0 p0_1)) (4607182418800017408 : UInt64)) (FP.dmul (FP.l2d (own_v0_3 p0_0 p0_1)) (4607182418800017408 : UInt64)) (.double (0 : UInt64)) (.double (0 : UInt64)) hn0_6 n0 (Nat.le_trans Z0 sz0_7) An0_6 F_lower_bn0_6 g_bn0_6 F_upper_bn0_6 c164_hc43 c164_hc52 c164_hc43_2 c164_hc52_2 c164_hc79) hZ (hw _ (List.mem_of_getElem? (i := 15) rfl)) (hw _ (List.mem_of_getElem? (i := 12) rfl)) (by decide) (by decide)) (g := (mkF m 164 #[.val (.int p0_0), .val (.int p0_1), .val (.int p0_2), .val (.long (own_v0_0 p0_0)), .second, .val (.long (own_v0_1 p0_1)), .second, .val (.long (own_v0_2 p0_0 p0_1)), .second, .val (.long (own_v0_3 p0_0 p0_1)), .second, .val (.long (own_v0_4 p0_0 p0_1)), .second, .val (.int (own_v0_5 p0_2)), .val (.double (4607182418800017408 : UInt64)), .second, .val (.double (own_v0_7 p0_0 p0_1)), .second, .unset, .unset] [(.double (FP.dmul (FP.l2d (own_v0_3 p0_0 p0_1)) (4607182418800017408 : UInt64))), (.double (FP.dmul (FP.l2d (own_v0_2 p0_0 p0_1)) (4607182418800017408 : UInt64))), (.ref bn0_6), (.ref bn0_6)])) rfl (by rw [hml]; rfl) (Steps.refl _) (a := bn0_6) (argsL := [(.double (FP.dmul (FP.l2d (own_v0_2 p0_0 p0_1)) (4607182418800017408 : UInt64))), (.double (FP.dmul (FP.l2d (own_v0_3 p0_0 p0_1)) (4607182418800017408 : UInt64)))]) (rest := [(.ref bn0_6)]) (lenOf own_pd2 rfl) rfl (by show 2 * 0 + _ ≤ _; exact Nat.le_of_eq rfl) (hb hby at_164) (fun _ _ => ⟨rfl, en0_6, (by decide : 1 + 1 ≤ _), (by decide : 2 + 2 ≤ _)⟩)
    dsimp only [Pt.U, Pt.locs, Pt.cells, Pt.slots] at Xk0_8 lk0_8 yk0_8 zk0_8 stk0_8 hQk0_8
    subst lk0_8 yk0_8 zk0_8
    obtain ⟨rfl, Nk0_8q, Kk0_8, Qk0_8_0, Qk0_8_1, Qk0_8_2⟩ := hQk0_8
    have sz0_9 : h0.size ≤ Tk0_8.heap.size := Nat.le_trans sz0_7 Kk0_8.1
    have Nk0_8 := Fr.app Nj0_5 Nk0_8q
    obtain ⟨cqk0_10, kqk0_10, qk0_10a, qk0_10b, qk0_10c⟩ := isOf hZ rfl Qk0_8_0
    obtain ⟨_, _, ⟨Tk0_10, Lk0_10, kk0_10, nk0_10⟩, -, Xk0_10, ⟨Lck0_10, hQk0_10, lk0_10, yk0_10, zk0_10⟩, stk0_10⟩ := Xk0_8.virtualBack hx (y := (⟨"com/example/surepath/surepath/Interval", "centre", "()D"⟩ : MethodName)) (z := (⟨"com/example/surepath/surepath/Interval", "centre", "()D"⟩ : MethodName)) hown (mvT hZ (hw _ (List.mem_of_getElem? (i := 30) rfl))) (mvT hZ (hw _ (List.mem_of_getElem? (i := 31) rfl))) (notFace_of_selects (args := #[]) (mvT hZ (hw _ (List.mem_of_getElem? (i := 33) rfl)))) (mvT hZ (hw _ (List.mem_of_getElem? (i := 33) rfl))) (mvT hZ (hw _ (List.mem_of_getElem? (i := 32) rfl))) (by decide) (backOf (W := 0) (own_rm6 l Z a0 hw [] bn0_6 (FP.dmul (FP.l2d (own_v0_2 p0_0 p0_1)) (4607182418800017408 : UInt64)) (FP.dmul (FP.l2d (own_v0_3 p0_0 p0_1)) (4607182418800017408 : UInt64)) Tk0_8.heap n0 (Nat.le_trans Z0 sz0_9) Qk0_8_1 Qk0_8_2 c171_nn8 c171_nn22 c171_nn33 c171_nn41 c171_nn42) hZ (hw _ (List.mem_of_getElem? (i := 34) rfl)) (hw _ (List.mem_of_getElem? (i := 12) rfl)) (by decide) (by decide)) qk0_10a qk0_10c (g := (mkF m 171 #[.val (.int p0_0), .val (.int p0_1), .val (.int p0_2), .val (.long (own_v0_0 p0_0)), .second, .val (.long (own_v0_1 p0_1)), .second, .val (.long (own_v0_2 p0_0 p0_1)), .second, .val (.long (own_v0_3 p0_0 p0_1)), .second, .val (.long (own_v0_4 p0_0 p0_1)), .second, .val (.int (own_v0_5 p0_2)), .val (.double (4607182418800017408 : UInt64)), .second, .val (.double (own_v0_7 p0_0 p0_1)), .second, .val (.ref bn0_6), .unset] [(.ref bn0_6)])) rfl (by rw [hml]; rfl) (Steps.refl _) (argsL := []) (rest := []) (lenOf own_pd3 rfl) rfl (by show 2 * 0 + _ ≤ _; exact Nat.le_of_eq rfl) (hb hby at_171) (fun _ _ => ⟨rfl, rfl, (by decide : 2 + 0 ≤ _), (by decide : 4 + 0 ≤ _)⟩)
    dsimp only [Pt.U, Pt.locs, Pt.cells, Pt.slots] at Xk0_10 lk0_10 yk0_10 zk0_10 stk0_10 hQk0_10
    subst lk0_10 yk0_10 zk0_10
    obtain ⟨rfl, Nk0_10q, ek0_10⟩ := hQk0_10
    have Nk0_10 := Fr.app Nk0_8 Nk0_10q
    obtain ⟨fs, hr, hrun, hended, hW, hsame⟩ := Xk0_10.leave (v := some (.int (1 : Int32))) (fun h => by rw [Bd.returns] at h; cases h)
    refine ⟨_, _, pre0 _ (Ks0_3 _ (K0_4 _ (?_))), hrun, hended, _, _, rfl, ?_, ⟨_, rfl⟩, hW, hsame.mono (by decide) (by decide)⟩
    · show Steps p.tables e below (Tk0_2.setTop (mkF m 51 #[.val (.int p0_0), .val (.int p0_1), .val (.int p0_2), .val (.long (own_v0_0 p0_0)), .second, .val (.long (own_v0_1 p0_1)), .second, .val (.long (own_v0_2 p0_0 p0_1)), .second, .val (.long (own_v0_3 p0_0 p0_1)), .second, .val (.long (own_v0_4 p0_0 p0_1)), .second, .val (.int (own_v0_5 p0_2)), .unset, .unset, .unset, .unset, .unset, .unset] [])) _
      refine XS.dconst1 Xk0_2.here hx rfl (hb hby at_51) (v := (4607182418800017408 : UInt64)) (by decide +kernel) ?_
      show Steps p.tables e below (Tk0_2.setTop (mkF m 52 #[.val (.int p0_0), .val (.int p0_1), .val (.int p0_2), .val (.long (own_v0_0 p0_0)), .second, .val (.long (own_v0_1 p0_1)), .second, .val (.long (own_v0_2 p0_0 p0_1)), .second, .val (.long (own_v0_3 p0_0 p0_1)), .second, .val (.long (own_v0_4 p0_0 p0_1)), .second, .val (.int (own_v0_5 p0_2)), .unset, .unset, .unset, .unset, .unset, .unset] [(.double (4607182418800017408 : UInt64))])) _
      refine XS.dstore Xk0_2.here hx rfl (hb hby at_52) rfl (l' := #[.val (.int p0_0), .val (.int p0_1), .val (.int p0_2), .val (.long (own_v0_0 p0_0)), .second, .val (.long (own_v0_1 p0_1)), .second, .val (.long (own_v0_2 p0_0 p0_1)), .second, .val (.long (own_v0_3 p0_0 p0_1)), .second, .val (.long (own_v0_4 p0_0 p0_1)), .second, .val (.int (own_v0_5 p0_2)), .val (.double (4607182418800017408 : UInt64)), .second, .unset, .unset, .unset, .unset]) rfl ?_
      show Steps p.tables e below (Tk0_2.setTop (mkF m 54 #[.val (.int p0_0), .val (.int p0_1), .val (.int p0_2), .val (.long (own_v0_0 p0_0)), .second, .val (.long (own_v0_1 p0_1)), .second, .val (.long (own_v0_2 p0_0 p0_1)), .second, .val (.long (own_v0_3 p0_0 p0_1)), .second, .val (.long (own_v0_4 p0_0 p0_1)), .second, .val (.int (own_v0_5 p0_2)), .val (.double (4607182418800017408 : UInt64)), .second, .unset, .unset, .unset, .unset] [])) _
      refine XT.lload Xk0_2.here hx rfl (hb hby at_54) rfl ?_
      show Steps p.tables e below (Tk0_2.setTop (mkF m 56 #[.val (.int p0_0), .val (.int p0_1), .val (.int p0_2), .val (.long (own_v0_0 p0_0)), .second, .val (.long (own_v0_1 p0_1)), .second, .val (.long (own_v0_2 p0_0 p0_1)), .second, .val (.long (own_v0_3 p0_0 p0_1)), .second, .val (.long (own_v0_4 p0_0 p0_1)), .second, .val (.int (own_v0_5 p0_2)), .val (.double (4607182418800017408 : UInt64)), .second, .unset, .unset, .unset, .unset] [(.long (own_v0_4 p0_0 p0_1))])) _
      refine XS.iconst Xk0_2.here hx rfl (hb hby at_56) ?_
      show Steps p.tables e below (Tk0_2.setTop (mkF m 57 #[.val (.int p0_0), .val (.int p0_1), .val (.int p0_2), .val (.long (own_v0_0 p0_0)), .second, .val (.long (own_v0_1 p0_1)), .second, .val (.long (own_v0_2 p0_0 p0_1)), .second, .val (.long (own_v0_3 p0_0 p0_1)), .second, .val (.long (own_v0_4 p0_0 p0_1)), .second, .val (.int (own_v0_5 p0_2)), .val (.double (4607182418800017408 : UInt64)), .second, .unset, .unset, .unset, .unset] [(.int (1 : Int32)), (.long (own_v0_4 p0_0 p0_1))])) _
      refine XT.lshr Xk0_2.here hx rfl (hb hby at_57) rfl ?_
      show Steps p.tables e below (Tk0_2.setTop (mkF m 58 #[.val (.int p0_0), .val (.int p0_1), .val (.int p0_2), .val (.long (own_v0_0 p0_0)), .second, .val (.long (own_v0_1 p0_1)), .second, .val (.long (own_v0_2 p0_0 p0_1)), .second, .val (.long (own_v0_3 p0_0 p0_1)), .second, .val (.long (own_v0_4 p0_0 p0_1)), .second, .val (.int (own_v0_5 p0_2)), .val (.double (4607182418800017408 : UInt64)), .second, .unset, .unset, .unset, .unset] [(.long ((own_v0_4 p0_0 p0_1) >>> ((1 : Int32).toInt64 &&& 63)))])) _
      refine XS.l2dS Xk0_2.here hx rfl (hb hby at_58) rfl rfl ?_
      show Steps p.tables e below (Tk0_2.setTop (mkF m 59 #[.val (.int p0_0), .val (.int p0_1), .val (.int p0_2), .val (.long (own_v0_0 p0_0)), .second, .val (.long (own_v0_1 p0_1)), .second, .val (.long (own_v0_2 p0_0 p0_1)), .second, .val (.long (own_v0_3 p0_0 p0_1)), .second, .val (.long (own_v0_4 p0_0 p0_1)), .second, .val (.int (own_v0_5 p0_2)), .val (.double (4607182418800017408 : UInt64)), .second, .unset, .unset, .unset, .unset] [(.double (FP.l2d ((own_v0_4 p0_0 p0_1) >>> ((1 : Int32).toInt64 &&& 63))))])) _
      refine XT.lload Xk0_2.here hx rfl (hb hby at_59) rfl ?_
      show Steps p.tables e below (Tk0_2.setTop (mkF m 61 #[.val (.int p0_0), .val (.int p0_1), .val (.int p0_2), .val (.long (own_v0_0 p0_0)), .second, .val (.long (own_v0_1 p0_1)), .second, .val (.long (own_v0_2 p0_0 p0_1)), .second, .val (.long (own_v0_3 p0_0 p0_1)), .second, .val (.long (own_v0_4 p0_0 p0_1)), .second, .val (.int (own_v0_5 p0_2)), .val (.double (4607182418800017408 : UInt64)), .second, .unset, .unset, .unset, .unset] [(.long (own_v0_4 p0_0 p0_1)), (.double (FP.l2d ((own_v0_4 p0_0 p0_1) >>> ((1 : Int32).toInt64 &&& 63))))])) _
      refine XT.lconst Xk0_2.here hx rfl (hb hby at_61) ?_
      show Steps p.tables e below (Tk0_2.setTop (mkF m 62 #[.val (.int p0_0), .val (.int p0_1), .val (.int p0_2), .val (.long (own_v0_0 p0_0)), .second, .val (.long (own_v0_1 p0_1)), .second, .val (.long (own_v0_2 p0_0 p0_1)), .second, .val (.long (own_v0_3 p0_0 p0_1)), .second, .val (.long (own_v0_4 p0_0 p0_1)), .second, .val (.int (own_v0_5 p0_2)), .val (.double (4607182418800017408 : UInt64)), .second, .unset, .unset, .unset, .unset] [(.long (1 : Int64)), (.long (own_v0_4 p0_0 p0_1)), (.double (FP.l2d ((own_v0_4 p0_0 p0_1) >>> ((1 : Int32).toInt64 &&& 63))))])) _
      refine XT.land Xk0_2.here hx rfl (hb hby at_62) rfl ?_
      show Steps p.tables e below (Tk0_2.setTop (mkF m 63 #[.val (.int p0_0), .val (.int p0_1), .val (.int p0_2), .val (.long (own_v0_0 p0_0)), .second, .val (.long (own_v0_1 p0_1)), .second, .val (.long (own_v0_2 p0_0 p0_1)), .second, .val (.long (own_v0_3 p0_0 p0_1)), .second, .val (.long (own_v0_4 p0_0 p0_1)), .second, .val (.int (own_v0_5 p0_2)), .val (.double (4607182418800017408 : UInt64)), .second, .unset, .unset, .unset, .unset] [(.long ((own_v0_4 p0_0 p0_1) &&& (1 : Int64))), (.double (FP.l2d ((own_v0_4 p0_0 p0_1) >>> ((1 : Int32).toInt64 &&& 63))))])) _
      refine XT.lconst Xk0_2.here hx rfl (hb hby at_63) ?_
      show Steps p.tables e below (Tk0_2.setTop (mkF m 64 #[.val (.int p0_0), .val (.int p0_1), .val (.int p0_2), .val (.long (own_v0_0 p0_0)), .second, .val (.long (own_v0_1 p0_1)), .second, .val (.long (own_v0_2 p0_0 p0_1)), .second, .val (.long (own_v0_3 p0_0 p0_1)), .second, .val (.long (own_v0_4 p0_0 p0_1)), .second, .val (.int (own_v0_5 p0_2)), .val (.double (4607182418800017408 : UInt64)), .second, .unset, .unset, .unset, .unset] [(.long (0 : Int64)), (.long ((own_v0_4 p0_0 p0_1) &&& (1 : Int64))), (.double (FP.l2d ((own_v0_4 p0_0 p0_1) >>> ((1 : Int32).toInt64 &&& 63))))])) _
      refine XT.lcmp Xk0_2.here hx rfl (hb hby at_64) rfl ?_
      show Steps p.tables e below (Tk0_2.setTop (mkF m 65 #[.val (.int p0_0), .val (.int p0_1), .val (.int p0_2), .val (.long (own_v0_0 p0_0)), .second, .val (.long (own_v0_1 p0_1)), .second, .val (.long (own_v0_2 p0_0 p0_1)), .second, .val (.long (own_v0_3 p0_0 p0_1)), .second, .val (.long (own_v0_4 p0_0 p0_1)), .second, .val (.int (own_v0_5 p0_2)), .val (.double (4607182418800017408 : UInt64)), .second, .unset, .unset, .unset, .unset] [(.int (XT.cmpL ((own_v0_4 p0_0 p0_1) &&& (1 : Int64)) (0 : Int64))), (.double (FP.l2d ((own_v0_4 p0_0 p0_1) >>> ((1 : Int32).toInt64 &&& 63))))])) _
      refine stj0_5 _ ?_
      show Steps p.tables e below (Tj0_5.setTop (mkF m 75 #[.val (.int p0_0), .val (.int p0_1), .val (.int p0_2), .val (.long (own_v0_0 p0_0)), .second, .val (.long (own_v0_1 p0_1)), .second, .val (.long (own_v0_2 p0_0 p0_1)), .second, .val (.long (own_v0_3 p0_0 p0_1)), .second, .val (.long (own_v0_4 p0_0 p0_1)), .second, .val (.int (own_v0_5 p0_2)), .val (.double (4607182418800017408 : UInt64)), .second, .unset, .unset, .unset, .unset] [(.double (own_j0_6 p0_0 p0_1)), (.double (FP.l2d ((own_v0_4 p0_0 p0_1) >>> ((1 : Int32).toInt64 &&& 63))))])) _
      refine XS.daddS Xj0_5.here hx rfl (hb hby at_75) rfl nn75 rfl ?_
      show Steps p.tables e below (Tj0_5.setTop (mkF m 76 #[.val (.int p0_0), .val (.int p0_1), .val (.int p0_2), .val (.long (own_v0_0 p0_0)), .second, .val (.long (own_v0_1 p0_1)), .second, .val (.long (own_v0_2 p0_0 p0_1)), .second, .val (.long (own_v0_3 p0_0 p0_1)), .second, .val (.long (own_v0_4 p0_0 p0_1)), .second, .val (.int (own_v0_5 p0_2)), .val (.double (4607182418800017408 : UInt64)), .second, .unset, .unset, .unset, .unset] [(.double (FP.dadd (FP.l2d ((own_v0_4 p0_0 p0_1) >>> ((1 : Int32).toInt64 &&& 63))) (own_j0_6 p0_0 p0_1)))])) _
      refine XS.dstore Xj0_5.here hx rfl (hb hby at_76) rfl (l' := #[.val (.int p0_0), .val (.int p0_1), .val (.int p0_2), .val (.long (own_v0_0 p0_0)), .second, .val (.long (own_v0_1 p0_1)), .second, .val (.long (own_v0_2 p0_0 p0_1)), .second, .val (.long (own_v0_3 p0_0 p0_1)), .second, .val (.long (own_v0_4 p0_0 p0_1)), .second, .val (.int (own_v0_5 p0_2)), .val (.double (4607182418800017408 : UInt64)), .second, .val (.double (own_v0_7 p0_0 p0_1)), .second, .unset, .unset]) rfl ?_
      show Steps p.tables e below (Tj0_5.setTop (mkF m 78 #[.val (.int p0_0), .val (.int p0_1), .val (.int p0_2), .val (.long (own_v0_0 p0_0)), .second, .val (.long (own_v0_1 p0_1)), .second, .val (.long (own_v0_2 p0_0 p0_1)), .second, .val (.long (own_v0_3 p0_0 p0_1)), .second, .val (.long (own_v0_4 p0_0 p0_1)), .second, .val (.int (own_v0_5 p0_2)), .val (.double (4607182418800017408 : UInt64)), .second, .val (.double (own_v0_7 p0_0 p0_1)), .second, .unset, .unset] [])) _
      refine XS.goto Xj0_5.here hx rfl (pc0 := 78) (pc' := 148) rfl (hb hby at_78) (by decide) (by decide) ?_
      show Steps p.tables e below (Tj0_5.setTop (mkF m 148 #[.val (.int p0_0), .val (.int p0_1), .val (.int p0_2), .val (.long (own_v0_0 p0_0)), .second, .val (.long (own_v0_1 p0_1)), .second, .val (.long (own_v0_2 p0_0 p0_1)), .second, .val (.long (own_v0_3 p0_0 p0_1)), .second, .val (.long (own_v0_4 p0_0 p0_1)), .second, .val (.int (own_v0_5 p0_2)), .val (.double (4607182418800017408 : UInt64)), .second, .val (.double (own_v0_7 p0_0 p0_1)), .second, .unset, .unset] [])) _
      refine stn0_6 _ ?_
      show Steps p.tables e below (Tn0_6.setTop (mkF m 151 #[.val (.int p0_0), .val (.int p0_1), .val (.int p0_2), .val (.long (own_v0_0 p0_0)), .second, .val (.long (own_v0_1 p0_1)), .second, .val (.long (own_v0_2 p0_0 p0_1)), .second, .val (.long (own_v0_3 p0_0 p0_1)), .second, .val (.long (own_v0_4 p0_0 p0_1)), .second, .val (.int (own_v0_5 p0_2)), .val (.double (4607182418800017408 : UInt64)), .second, .val (.double (own_v0_7 p0_0 p0_1)), .second, .unset, .unset] [(.ref bn0_6)])) _
      refine XS.dup Xn0_6.here hx rfl (hb hby at_151) rfl rfl ?_
      show Steps p.tables e below (Tn0_6.setTop (mkF m 152 #[.val (.int p0_0), .val (.int p0_1), .val (.int p0_2), .val (.long (own_v0_0 p0_0)), .second, .val (.long (own_v0_1 p0_1)), .second, .val (.long (own_v0_2 p0_0 p0_1)), .second, .val (.long (own_v0_3 p0_0 p0_1)), .second, .val (.long (own_v0_4 p0_0 p0_1)), .second, .val (.int (own_v0_5 p0_2)), .val (.double (4607182418800017408 : UInt64)), .second, .val (.double (own_v0_7 p0_0 p0_1)), .second, .unset, .unset] [(.ref bn0_6), (.ref bn0_6)])) _
      refine XT.lload Xn0_6.here hx rfl (hb hby at_152) rfl ?_
      show Steps p.tables e below (Tn0_6.setTop (mkF m 154 #[.val (.int p0_0), .val (.int p0_1), .val (.int p0_2), .val (.long (own_v0_0 p0_0)), .second, .val (.long (own_v0_1 p0_1)), .second, .val (.long (own_v0_2 p0_0 p0_1)), .second, .val (.long (own_v0_3 p0_0 p0_1)), .second, .val (.long (own_v0_4 p0_0 p0_1)), .second, .val (.int (own_v0_5 p0_2)), .val (.double (4607182418800017408 : UInt64)), .second, .val (.double (own_v0_7 p0_0 p0_1)), .second, .unset, .unset] [(.long (own_v0_2 p0_0 p0_1)), (.ref bn0_6), (.ref bn0_6)])) _
      refine XS.l2dS Xn0_6.here hx rfl (hb hby at_154) rfl rfl ?_
      show Steps p.tables e below (Tn0_6.setTop (mkF m 155 #[.val (.int p0_0), .val (.int p0_1), .val (.int p0_2), .val (.long (own_v0_0 p0_0)), .second, .val (.long (own_v0_1 p0_1)), .second, .val (.long (own_v0_2 p0_0 p0_1)), .second, .val (.long (own_v0_3 p0_0 p0_1)), .second, .val (.long (own_v0_4 p0_0 p0_1)), .second, .val (.int (own_v0_5 p0_2)), .val (.double (4607182418800017408 : UInt64)), .second, .val (.double (own_v0_7 p0_0 p0_1)), .second, .unset, .unset] [(.double (FP.l2d (own_v0_2 p0_0 p0_1))), (.ref bn0_6), (.ref bn0_6)])) _
      refine XS.dload Xn0_6.here hx rfl (hb hby at_155) rfl ?_
      show Steps p.tables e below (Tn0_6.setTop (mkF m 157 #[.val (.int p0_0), .val (.int p0_1), .val (.int p0_2), .val (.long (own_v0_0 p0_0)), .second, .val (.long (own_v0_1 p0_1)), .second, .val (.long (own_v0_2 p0_0 p0_1)), .second, .val (.long (own_v0_3 p0_0 p0_1)), .second, .val (.long (own_v0_4 p0_0 p0_1)), .second, .val (.int (own_v0_5 p0_2)), .val (.double (4607182418800017408 : UInt64)), .second, .val (.double (own_v0_7 p0_0 p0_1)), .second, .unset, .unset] [(.double (4607182418800017408 : UInt64)), (.double (FP.l2d (own_v0_2 p0_0 p0_1))), (.ref bn0_6), (.ref bn0_6)])) _
      refine XS.dmulS Xn0_6.here hx rfl (hb hby at_157) rfl nn157 rfl ?_
      show Steps p.tables e below (Tn0_6.setTop (mkF m 158 #[.val (.int p0_0), .val (.int p0_1), .val (.int p0_2), .val (.long (own_v0_0 p0_0)), .second, .val (.long (own_v0_1 p0_1)), .second, .val (.long (own_v0_2 p0_0 p0_1)), .second, .val (.long (own_v0_3 p0_0 p0_1)), .second, .val (.long (own_v0_4 p0_0 p0_1)), .second, .val (.int (own_v0_5 p0_2)), .val (.double (4607182418800017408 : UInt64)), .second, .val (.double (own_v0_7 p0_0 p0_1)), .second, .unset, .unset] [(.double (FP.dmul (FP.l2d (own_v0_2 p0_0 p0_1)) (4607182418800017408 : UInt64))), (.ref bn0_6), (.ref bn0_6)])) _
      refine XT.lload Xn0_6.here hx rfl (hb hby at_158) rfl ?_
      show Steps p.tables e below (Tn0_6.setTop (mkF m 160 #[.val (.int p0_0), .val (.int p0_1), .val (.int p0_2), .val (.long (own_v0_0 p0_0)), .second, .val (.long (own_v0_1 p0_1)), .second, .val (.long (own_v0_2 p0_0 p0_1)), .second, .val (.long (own_v0_3 p0_0 p0_1)), .second, .val (.long (own_v0_4 p0_0 p0_1)), .second, .val (.int (own_v0_5 p0_2)), .val (.double (4607182418800017408 : UInt64)), .second, .val (.double (own_v0_7 p0_0 p0_1)), .second, .unset, .unset] [(.long (own_v0_3 p0_0 p0_1)), (.double (FP.dmul (FP.l2d (own_v0_2 p0_0 p0_1)) (4607182418800017408 : UInt64))), (.ref bn0_6), (.ref bn0_6)])) _
      refine XS.l2dS Xn0_6.here hx rfl (hb hby at_160) rfl rfl ?_
      show Steps p.tables e below (Tn0_6.setTop (mkF m 161 #[.val (.int p0_0), .val (.int p0_1), .val (.int p0_2), .val (.long (own_v0_0 p0_0)), .second, .val (.long (own_v0_1 p0_1)), .second, .val (.long (own_v0_2 p0_0 p0_1)), .second, .val (.long (own_v0_3 p0_0 p0_1)), .second, .val (.long (own_v0_4 p0_0 p0_1)), .second, .val (.int (own_v0_5 p0_2)), .val (.double (4607182418800017408 : UInt64)), .second, .val (.double (own_v0_7 p0_0 p0_1)), .second, .unset, .unset] [(.double (FP.l2d (own_v0_3 p0_0 p0_1))), (.double (FP.dmul (FP.l2d (own_v0_2 p0_0 p0_1)) (4607182418800017408 : UInt64))), (.ref bn0_6), (.ref bn0_6)])) _
      refine XS.dload Xn0_6.here hx rfl (hb hby at_161) rfl ?_
      show Steps p.tables e below (Tn0_6.setTop (mkF m 163 #[.val (.int p0_0), .val (.int p0_1), .val (.int p0_2), .val (.long (own_v0_0 p0_0)), .second, .val (.long (own_v0_1 p0_1)), .second, .val (.long (own_v0_2 p0_0 p0_1)), .second, .val (.long (own_v0_3 p0_0 p0_1)), .second, .val (.long (own_v0_4 p0_0 p0_1)), .second, .val (.int (own_v0_5 p0_2)), .val (.double (4607182418800017408 : UInt64)), .second, .val (.double (own_v0_7 p0_0 p0_1)), .second, .unset, .unset] [(.double (4607182418800017408 : UInt64)), (.double (FP.l2d (own_v0_3 p0_0 p0_1))), (.double (FP.dmul (FP.l2d (own_v0_2 p0_0 p0_1)) (4607182418800017408 : UInt64))), (.ref bn0_6), (.ref bn0_6)])) _
      refine XS.dmulS Xn0_6.here hx rfl (hb hby at_163) rfl nn163 rfl ?_
      show Steps p.tables e below (Tn0_6.setTop (mkF m 164 #[.val (.int p0_0), .val (.int p0_1), .val (.int p0_2), .val (.long (own_v0_0 p0_0)), .second, .val (.long (own_v0_1 p0_1)), .second, .val (.long (own_v0_2 p0_0 p0_1)), .second, .val (.long (own_v0_3 p0_0 p0_1)), .second, .val (.long (own_v0_4 p0_0 p0_1)), .second, .val (.int (own_v0_5 p0_2)), .val (.double (4607182418800017408 : UInt64)), .second, .val (.double (own_v0_7 p0_0 p0_1)), .second, .unset, .unset] [(.double (FP.dmul (FP.l2d (own_v0_3 p0_0 p0_1)) (4607182418800017408 : UInt64))), (.double (FP.dmul (FP.l2d (own_v0_2 p0_0 p0_1)) (4607182418800017408 : UInt64))), (.ref bn0_6), (.ref bn0_6)])) _
      refine stk0_8.trans ?_
      show Steps p.tables e below (Tk0_8.setTop (mkF m 167 #[.val (.int p0_0), .val (.int p0_1), .val (.int p0_2), .val (.long (own_v0_0 p0_0)), .second, .val (.long (own_v0_1 p0_1)), .second, .val (.long (own_v0_2 p0_0 p0_1)), .second, .val (.long (own_v0_3 p0_0 p0_1)), .second, .val (.long (own_v0_4 p0_0 p0_1)), .second, .val (.int (own_v0_5 p0_2)), .val (.double (4607182418800017408 : UInt64)), .second, .val (.double (own_v0_7 p0_0 p0_1)), .second, .unset, .unset] [(.ref bn0_6)])) _
      refine XS.astore Xk0_8.here hx rfl (hb hby at_167) rfl rfl (l' := #[.val (.int p0_0), .val (.int p0_1), .val (.int p0_2), .val (.long (own_v0_0 p0_0)), .second, .val (.long (own_v0_1 p0_1)), .second, .val (.long (own_v0_2 p0_0 p0_1)), .second, .val (.long (own_v0_3 p0_0 p0_1)), .second, .val (.long (own_v0_4 p0_0 p0_1)), .second, .val (.int (own_v0_5 p0_2)), .val (.double (4607182418800017408 : UInt64)), .second, .val (.double (own_v0_7 p0_0 p0_1)), .second, .val (.ref bn0_6), .unset]) rfl ?_
      show Steps p.tables e below (Tk0_8.setTop (mkF m 169 #[.val (.int p0_0), .val (.int p0_1), .val (.int p0_2), .val (.long (own_v0_0 p0_0)), .second, .val (.long (own_v0_1 p0_1)), .second, .val (.long (own_v0_2 p0_0 p0_1)), .second, .val (.long (own_v0_3 p0_0 p0_1)), .second, .val (.long (own_v0_4 p0_0 p0_1)), .second, .val (.int (own_v0_5 p0_2)), .val (.double (4607182418800017408 : UInt64)), .second, .val (.double (own_v0_7 p0_0 p0_1)), .second, .val (.ref bn0_6), .unset] [])) _
      refine XS.aload Xk0_8.here hx rfl (hb hby at_169) rfl rfl ?_
      show Steps p.tables e below (Tk0_8.setTop (mkF m 171 #[.val (.int p0_0), .val (.int p0_1), .val (.int p0_2), .val (.long (own_v0_0 p0_0)), .second, .val (.long (own_v0_1 p0_1)), .second, .val (.long (own_v0_2 p0_0 p0_1)), .second, .val (.long (own_v0_3 p0_0 p0_1)), .second, .val (.long (own_v0_4 p0_0 p0_1)), .second, .val (.int (own_v0_5 p0_2)), .val (.double (4607182418800017408 : UInt64)), .second, .val (.double (own_v0_7 p0_0 p0_1)), .second, .val (.ref bn0_6), .unset] [(.ref bn0_6)])) _
      refine stk0_10.trans ?_
      show Steps p.tables e below (Tk0_10.setTop (mkF m 174 #[.val (.int p0_0), .val (.int p0_1), .val (.int p0_2), .val (.long (own_v0_0 p0_0)), .second, .val (.long (own_v0_1 p0_1)), .second, .val (.long (own_v0_2 p0_0 p0_1)), .second, .val (.long (own_v0_3 p0_0 p0_1)), .second, .val (.long (own_v0_4 p0_0 p0_1)), .second, .val (.int (own_v0_5 p0_2)), .val (.double (4607182418800017408 : UInt64)), .second, .val (.double (own_v0_7 p0_0 p0_1)), .second, .val (.ref bn0_6), .unset] [(.double (own_r6_2 (FP.dmul (FP.l2d (own_v0_2 p0_0 p0_1)) (4607182418800017408 : UInt64)) (FP.dmul (FP.l2d (own_v0_3 p0_0 p0_1)) (4607182418800017408 : UInt64))))])) _
      refine XS.dload Xk0_10.here hx rfl (hb hby at_174) rfl ?_
      show Steps p.tables e below (Tk0_10.setTop (mkF m 176 #[.val (.int p0_0), .val (.int p0_1), .val (.int p0_2), .val (.long (own_v0_0 p0_0)), .second, .val (.long (own_v0_1 p0_1)), .second, .val (.long (own_v0_2 p0_0 p0_1)), .second, .val (.long (own_v0_3 p0_0 p0_1)), .second, .val (.long (own_v0_4 p0_0 p0_1)), .second, .val (.int (own_v0_5 p0_2)), .val (.double (4607182418800017408 : UInt64)), .second, .val (.double (own_v0_7 p0_0 p0_1)), .second, .val (.ref bn0_6), .unset] [(.double (own_v0_7 p0_0 p0_1)), (.double (own_r6_2 (FP.dmul (FP.l2d (own_v0_2 p0_0 p0_1)) (4607182418800017408 : UInt64)) (FP.dmul (FP.l2d (own_v0_3 p0_0 p0_1)) (4607182418800017408 : UInt64))))])) _
      refine XS.dcmpS Xk0_10.here hx rfl (hb hby at_176) rfl rfl ?_
      show Steps p.tables e below (Tk0_10.setTop (mkF m 177 #[.val (.int p0_0), .val (.int p0_1), .val (.int p0_2), .val (.long (own_v0_0 p0_0)), .second, .val (.long (own_v0_1 p0_1)), .second, .val (.long (own_v0_2 p0_0 p0_1)), .second, .val (.long (own_v0_3 p0_0 p0_1)), .second, .val (.long (own_v0_4 p0_0 p0_1)), .second, .val (.int (own_v0_5 p0_2)), .val (.double (4607182418800017408 : UInt64)), .second, .val (.double (own_v0_7 p0_0 p0_1)), .second, .val (.ref bn0_6), .unset] [(.int (cmpValue (FP.dcmp (own_r6_2 (FP.dmul (FP.l2d (own_v0_2 p0_0 p0_1)) (4607182418800017408 : UInt64)) (FP.dmul (FP.l2d (own_v0_3 p0_0 p0_1)) (4607182418800017408 : UInt64))) (own_v0_7 p0_0 p0_1)) .l))])) _
      refine XS.ifNo Xk0_10.here hx rfl (hb hby at_177) rfl (XT.i0_ne_f hc177) ?_
      show Steps p.tables e below (Tk0_10.setTop (mkF m 180 #[.val (.int p0_0), .val (.int p0_1), .val (.int p0_2), .val (.long (own_v0_0 p0_0)), .second, .val (.long (own_v0_1 p0_1)), .second, .val (.long (own_v0_2 p0_0 p0_1)), .second, .val (.long (own_v0_3 p0_0 p0_1)), .second, .val (.long (own_v0_4 p0_0 p0_1)), .second, .val (.int (own_v0_5 p0_2)), .val (.double (4607182418800017408 : UInt64)), .second, .val (.double (own_v0_7 p0_0 p0_1)), .second, .val (.ref bn0_6), .unset] [])) _
      refine XS.iconst Xk0_10.here hx rfl (hb hby at_180) ?_
      show Steps p.tables e below (Tk0_10.setTop (mkF m 181 #[.val (.int p0_0), .val (.int p0_1), .val (.int p0_2), .val (.long (own_v0_0 p0_0)), .second, .val (.long (own_v0_1 p0_1)), .second, .val (.long (own_v0_2 p0_0 p0_1)), .second, .val (.long (own_v0_3 p0_0 p0_1)), .second, .val (.long (own_v0_4 p0_0 p0_1)), .second, .val (.int (own_v0_5 p0_2)), .val (.double (4607182418800017408 : UInt64)), .second, .val (.double (own_v0_7 p0_0 p0_1)), .second, .val (.ref bn0_6), .unset] [(.int (1 : Int32))])) _
      refine XS.goto Xk0_10.here hx rfl (pc0 := 181) (pc' := 185) rfl (hb hby at_181) (by decide) (by decide) ?_
      show Steps p.tables e below (Tk0_10.setTop (mkF m 185 #[.val (.int p0_0), .val (.int p0_1), .val (.int p0_2), .val (.long (own_v0_0 p0_0)), .second, .val (.long (own_v0_1 p0_1)), .second, .val (.long (own_v0_2 p0_0 p0_1)), .second, .val (.long (own_v0_3 p0_0 p0_1)), .second, .val (.long (own_v0_4 p0_0 p0_1)), .second, .val (.int (own_v0_5 p0_2)), .val (.double (4607182418800017408 : UInt64)), .second, .val (.double (own_v0_7 p0_0 p0_1)), .second, .val (.ref bn0_6), .unset] [(.int (1 : Int32))])) _
      exact retN Xk0_10 hx (t := .boolean) Bd.returns (by simp) (hb hby at_185) hr
    · show own_Q0 Z p0_0 p0_1 p0_2 h0 n0 _ Tk0_10.heap _
      rw [ek0_10]
      exact ⟨rfl, Nk0_10⟩
  · have K0_11 : ∀ t, Steps p.tables e below (Tk0_2.setTop (mkF m 81 #[.val (.int p0_0), .val (.int p0_1), .val (.int p0_2), .val (.long (own_v0_0 p0_0)), .second, .val (.long (own_v0_1 p0_1)), .second, .val (.long (own_v0_2 p0_0 p0_1)), .second, .val (.long (own_v0_3 p0_0 p0_1)), .second, .val (.long (own_v0_4 p0_0 p0_1)), .second, .val (.int (own_v0_5 p0_2)), .unset, .unset, .unset, .unset, .unset, .unset] [])) t → Steps p.tables e below (Tk0_2.setTop (mkF m 48 #[.val (.int p0_0), .val (.int p0_1), .val (.int p0_2), .val (.long (own_v0_0 p0_0)), .second, .val (.long (own_v0_1 p0_1)), .second, .val (.long (own_v0_2 p0_0 p0_1)), .second, .val (.long (own_v0_3 p0_0 p0_1)), .second, .val (.long (own_v0_4 p0_0 p0_1)), .second, .val (.int (own_v0_5 p0_2)), .unset, .unset, .unset, .unset, .unset, .unset] [(.int (own_v0_5 p0_2))])) t := by
      intro t kt
      show Steps p.tables e below (Tk0_2.setTop (mkF m 48 #[.val (.int p0_0), .val (.int p0_1), .val (.int p0_2), .val (.long (own_v0_0 p0_0)), .second, .val (.long (own_v0_1 p0_1)), .second, .val (.long (own_v0_2 p0_0 p0_1)), .second, .val (.long (own_v0_3 p0_0 p0_1)), .second, .val (.long (own_v0_4 p0_0 p0_1)), .second, .val (.int (own_v0_5 p0_2)), .unset, .unset, .unset, .unset, .unset, .unset] [(.int (own_v0_5 p0_2))])) _
      refine XS.ifYes Xk0_2.here hx rfl (pc0 := 48) (pc' := 81) rfl (hb hby at_48) rfl (XT.i0_ne_t hs0_3) (by decide) (by decide) ?_
      exact kt
    have Ks0_12 : ∀ t, Steps p.tables e below (Tk0_2.setTop (mkF m 84 #[.val (.int p0_0), .val (.int p0_1), .val (.int p0_2), .val (.long (own_v0_0 p0_0)), .second, .val (.long (own_v0_1 p0_1)), .second, .val (.long (own_v0_2 p0_0 p0_1)), .second, .val (.long (own_v0_3 p0_0 p0_1)), .second, .val (.long (own_v0_4 p0_0 p0_1)), .second, .val (.int (own_v0_5 p0_2)), .unset, .unset, .unset, .unset, .unset, .unset] [(.int (1 : Int32)), (.int (own_v0_5 p0_2))])) t → Steps p.tables e below (Tk0_2.setTop (mkF m 81 #[.val (.int p0_0), .val (.int p0_1), .val (.int p0_2), .val (.long (own_v0_0 p0_0)), .second, .val (.long (own_v0_1 p0_1)), .second, .val (.long (own_v0_2 p0_0 p0_1)), .second, .val (.long (own_v0_3 p0_0 p0_1)), .second, .val (.long (own_v0_4 p0_0 p0_1)), .second, .val (.int (own_v0_5 p0_2)), .unset, .unset, .unset, .unset, .unset, .unset] [])) t := by
      intro t kt
      show Steps p.tables e below (Tk0_2.setTop (mkF m 81 #[.val (.int p0_0), .val (.int p0_1), .val (.int p0_2), .val (.long (own_v0_0 p0_0)), .second, .val (.long (own_v0_1 p0_1)), .second, .val (.long (own_v0_2 p0_0 p0_1)), .second, .val (.long (own_v0_3 p0_0 p0_1)), .second, .val (.long (own_v0_4 p0_0 p0_1)), .second, .val (.int (own_v0_5 p0_2)), .unset, .unset, .unset, .unset, .unset, .unset] [])) _
      refine XS.iload Xk0_2.here hx rfl (hb hby at_81) rfl ?_
      show Steps p.tables e below (Tk0_2.setTop (mkF m 83 #[.val (.int p0_0), .val (.int p0_1), .val (.int p0_2), .val (.long (own_v0_0 p0_0)), .second, .val (.long (own_v0_1 p0_1)), .second, .val (.long (own_v0_2 p0_0 p0_1)), .second, .val (.long (own_v0_3 p0_0 p0_1)), .second, .val (.long (own_v0_4 p0_0 p0_1)), .second, .val (.int (own_v0_5 p0_2)), .unset, .unset, .unset, .unset, .unset, .unset] [(.int (own_v0_5 p0_2))])) _
      refine XS.iconst Xk0_2.here hx rfl (hb hby at_83) ?_
      exact kt
    by_cases hs0_12 : (own_v0_5 p0_2) = (1 : Int32)
    · have K0_13 : ∀ t, Steps p.tables e below (Tk0_2.setTop (mkF m 87 #[.val (.int p0_0), .val (.int p0_1), .val (.int p0_2), .val (.long (own_v0_0 p0_0)), .second, .val (.long (own_v0_1 p0_1)), .second, .val (.long (own_v0_2 p0_0 p0_1)), .second, .val (.long (own_v0_3 p0_0 p0_1)), .second, .val (.long (own_v0_4 p0_0 p0_1)), .second, .val (.int (own_v0_5 p0_2)), .unset, .unset, .unset, .unset, .unset, .unset] [])) t → Steps p.tables e below (Tk0_2.setTop (mkF m 84 #[.val (.int p0_0), .val (.int p0_1), .val (.int p0_2), .val (.long (own_v0_0 p0_0)), .second, .val (.long (own_v0_1 p0_1)), .second, .val (.long (own_v0_2 p0_0 p0_1)), .second, .val (.long (own_v0_3 p0_0 p0_1)), .second, .val (.long (own_v0_4 p0_0 p0_1)), .second, .val (.int (own_v0_5 p0_2)), .unset, .unset, .unset, .unset, .unset, .unset] [(.int (1 : Int32)), (.int (own_v0_5 p0_2))])) t := by
        intro t kt
        show Steps p.tables e below (Tk0_2.setTop (mkF m 84 #[.val (.int p0_0), .val (.int p0_1), .val (.int p0_2), .val (.long (own_v0_0 p0_0)), .second, .val (.long (own_v0_1 p0_1)), .second, .val (.long (own_v0_2 p0_0 p0_1)), .second, .val (.long (own_v0_3 p0_0 p0_1)), .second, .val (.long (own_v0_4 p0_0 p0_1)), .second, .val (.int (own_v0_5 p0_2)), .unset, .unset, .unset, .unset, .unset, .unset] [(.int (1 : Int32)), (.int (own_v0_5 p0_2))])) _
        refine XS.icmpNo Xk0_2.here hx rfl (hb hby at_84) rfl (XT.ii_ne_f hs0_12) ?_
        exact kt
      obtain ⟨Tn0_14, hn0_14, Xn0_14, en0_14, En0_14, An0_14, Dn0_14, -, stn0_14⟩ := newO Xk0_2 hx hZ hown (hw _ (List.mem_of_getElem? (i := 10) rfl)) (hw _ (List.mem_of_getElem? (i := 11) rfl)) (hw _ (List.mem_of_getElem? (i := 12) rfl)) ek0_2 (g := (mkF m 148 #[.val (.int p0_0), .val (.int p0_1), .val (.int p0_2), .val (.long (own_v0_0 p0_0)), .second, .val (.long (own_v0_1 p0_1)), .second, .val (.long (own_v0_2 p0_0 p0_1)), .second, .val (.long (own_v0_3 p0_0 p0_1)), .second, .val (.long (own_v0_4 p0_0 p0_1)), .second, .val (.int (own_v0_5 p0_2)), .val (.double (9079256848778919936 : UInt64)), .second, .val (.double (own_v0_8 p0_0 p0_1)), .second, .unset, .unset] [])) rfl (hb hby at_148) (by decide) (by decide)
      obtain ⟨bn0_14, gn0_14⟩ : ∃ z, z = h0.size := ⟨_, rfl⟩
      rw [← gn0_14] at An0_14 Dn0_14 stn0_14
      have g_bn0_14 : n0 ≤ bn0_14 := Nat.le_trans Z0 (Nat.le_of_eq gn0_14.symm)
      have sz_bn0_14 : h0.size ≤ bn0_14 := Nat.le_trans Zr (Nat.le_of_eq gn0_14.symm)
      have sz0_15 : h0.size ≤ hn0_14.size := Nat.le_trans Zr En0_14.1
      have F_lower_bn0_14 : Fld Z hn0_14 bn0_14 "com/example/surepath/surepath/Interval" "lower" "D" (.double (0 : UInt64)) := Dn0_14 (Or.inr (hw _ (List.mem_of_getElem? (i := 27) rfl))) (ty := .double) (by decide)
      have F_upper_bn0_14 : Fld Z hn0_14 bn0_14 "com/example/surepath/surepath/Interval" "upper" "D" (.double (0 : UInt64)) := Dn0_14 (Or.inr (hw _ (List.mem_of_getElem? (i := 29) rfl))) (ty := .double) (by decide)
      obtain ⟨_, _, ⟨Tk0_16, Lk0_16, kk0_16, nk0_16⟩, -, Xk0_16, ⟨Lck0_16, hQk0_16, lk0_16, yk0_16, zk0_16⟩, stk0_16⟩ := Xn0_14.specialBack hx (y := (⟨"com/example/surepath/surepath/Interval", "<init>", "(DD)V"⟩ : MethodName)) rfl hown (mvT hZ (hw _ (List.mem_of_getElem? (i := 13) rfl))) (mvT hZ (hw _ (List.mem_of_getElem? (i := 14) rfl))) (mvT hZ (hw _ (List.mem_of_getElem? (i := 15) rfl))) (by decide) (backOf (W := 1) (own_rm3 l Z a0 hw [] bn0_14 (FP.dmul (FP.l2d (own_v0_2 p0_0 p0_1)) (9079256848778919936 : UInt64)) (FP.dmul (FP.l2d (own_v0_3 p0_0 p0_1)) (9079256848778919936 : UInt64)) (.double (0 : UInt64)) (.double (0 : UInt64)) hn0_14 n0 (Nat.le_trans Z0 sz0_15) An0_14 F_lower_bn0_14 g_bn0_14 F_upper_bn0_14 c164_hc43_3 c164_hc52_3 c164_hc43_2_2 c164_hc52_2_2 c164_hc79_2) hZ (hw _ (List.mem_of_getElem? (i := 15) rfl)) (hw _ (List.mem_of_getElem? (i := 12) rfl)) (by decide) (by decide)) (g := (mkF m 164 #[.val (.int p0_0), .val (.int p0_1), .val (.int p0_2), .val (.long (own_v0_0 p0_0)), .second, .val (.long (own_v0_1 p0_1)), .second, .val (.long (own_v0_2 p0_0 p0_1)), .second, .val (.long (own_v0_3 p0_0 p0_1)), .second, .val (.long (own_v0_4 p0_0 p0_1)), .second, .val (.int (own_v0_5 p0_2)), .val (.double (9079256848778919936 : UInt64)), .second, .val (.double (own_v0_8 p0_0 p0_1)), .second, .unset, .unset] [(.double (FP.dmul (FP.l2d (own_v0_3 p0_0 p0_1)) (9079256848778919936 : UInt64))), (.double (FP.dmul (FP.l2d (own_v0_2 p0_0 p0_1)) (9079256848778919936 : UInt64))), (.ref bn0_14), (.ref bn0_14)])) rfl (by rw [hml]; rfl) (Steps.refl _) (a := bn0_14) (argsL := [(.double (FP.dmul (FP.l2d (own_v0_2 p0_0 p0_1)) (9079256848778919936 : UInt64))), (.double (FP.dmul (FP.l2d (own_v0_3 p0_0 p0_1)) (9079256848778919936 : UInt64)))]) (rest := [(.ref bn0_14)]) (lenOf own_pd2 rfl) rfl (by show 2 * 0 + _ ≤ _; exact Nat.le_of_eq rfl) (hb hby at_164) (fun _ _ => ⟨rfl, en0_14, (by decide : 1 + 1 ≤ _), (by decide : 2 + 2 ≤ _)⟩)
      dsimp only [Pt.U, Pt.locs, Pt.cells, Pt.slots] at Xk0_16 lk0_16 yk0_16 zk0_16 stk0_16 hQk0_16
      subst lk0_16 yk0_16 zk0_16
      obtain ⟨rfl, Nk0_16q, Kk0_16, Qk0_16_0, Qk0_16_1, Qk0_16_2⟩ := hQk0_16
      have sz0_17 : h0.size ≤ Tk0_16.heap.size := Nat.le_trans sz0_15 Kk0_16.1
      have Nk0_16 := Fr.app Nk0_2 Nk0_16q
      obtain ⟨cqk0_18, kqk0_18, qk0_18a, qk0_18b, qk0_18c⟩ := isOf hZ rfl Qk0_16_0
      obtain ⟨_, _, ⟨Tk0_18, Lk0_18, kk0_18, nk0_18⟩, -, Xk0_18, ⟨Lck0_18, hQk0_18, lk0_18, yk0_18, zk0_18⟩, stk0_18⟩ := Xk0_16.virtualBack hx (y := (⟨"com/example/surepath/surepath/Interval", "centre", "()D"⟩ : MethodName)) (z := (⟨"com/example/surepath/surepath/Interval", "centre", "()D"⟩ : MethodName)) hown (mvT hZ (hw _ (List.mem_of_getElem? (i := 30) rfl))) (mvT hZ (hw _ (List.mem_of_getElem? (i := 31) rfl))) (notFace_of_selects (args := #[]) (mvT hZ (hw _ (List.mem_of_getElem? (i := 33) rfl)))) (mvT hZ (hw _ (List.mem_of_getElem? (i := 33) rfl))) (mvT hZ (hw _ (List.mem_of_getElem? (i := 32) rfl))) (by decide) (backOf (W := 0) (own_rm6 l Z a0 hw [] bn0_14 (FP.dmul (FP.l2d (own_v0_2 p0_0 p0_1)) (9079256848778919936 : UInt64)) (FP.dmul (FP.l2d (own_v0_3 p0_0 p0_1)) (9079256848778919936 : UInt64)) Tk0_16.heap n0 (Nat.le_trans Z0 sz0_17) Qk0_16_1 Qk0_16_2 c171_nn8_2 c171_nn22_2 c171_nn33_2 c171_nn41_2 c171_nn42_2) hZ (hw _ (List.mem_of_getElem? (i := 34) rfl)) (hw _ (List.mem_of_getElem? (i := 12) rfl)) (by decide) (by decide)) qk0_18a qk0_18c (g := (mkF m 171 #[.val (.int p0_0), .val (.int p0_1), .val (.int p0_2), .val (.long (own_v0_0 p0_0)), .second, .val (.long (own_v0_1 p0_1)), .second, .val (.long (own_v0_2 p0_0 p0_1)), .second, .val (.long (own_v0_3 p0_0 p0_1)), .second, .val (.long (own_v0_4 p0_0 p0_1)), .second, .val (.int (own_v0_5 p0_2)), .val (.double (9079256848778919936 : UInt64)), .second, .val (.double (own_v0_8 p0_0 p0_1)), .second, .val (.ref bn0_14), .unset] [(.ref bn0_14)])) rfl (by rw [hml]; rfl) (Steps.refl _) (argsL := []) (rest := []) (lenOf own_pd3 rfl) rfl (by show 2 * 0 + _ ≤ _; exact Nat.le_of_eq rfl) (hb hby at_171) (fun _ _ => ⟨rfl, rfl, (by decide : 2 + 0 ≤ _), (by decide : 4 + 0 ≤ _)⟩)
      dsimp only [Pt.U, Pt.locs, Pt.cells, Pt.slots] at Xk0_18 lk0_18 yk0_18 zk0_18 stk0_18 hQk0_18
      subst lk0_18 yk0_18 zk0_18
      obtain ⟨rfl, Nk0_18q, ek0_18⟩ := hQk0_18
      have Nk0_18 := Fr.app Nk0_16 Nk0_18q
      obtain ⟨fs, hr, hrun, hended, hW, hsame⟩ := Xk0_18.leave (v := some (.int (1 : Int32))) (fun h => by rw [Bd.returns] at h; cases h)
      refine ⟨_, _, pre0 _ (Ks0_3 _ (K0_11 _ (Ks0_12 _ (K0_13 _ (?_))))), hrun, hended, _, _, rfl, ?_, ⟨_, rfl⟩, hW, hsame.mono (by decide) (by decide)⟩
      · show Steps p.tables e below (Tk0_2.setTop (mkF m 87 #[.val (.int p0_0), .val (.int p0_1), .val (.int p0_2), .val (.long (own_v0_0 p0_0)), .second, .val (.long (own_v0_1 p0_1)), .second, .val (.long (own_v0_2 p0_0 p0_1)), .second, .val (.long (own_v0_3 p0_0 p0_1)), .second, .val (.long (own_v0_4 p0_0 p0_1)), .second, .val (.int (own_v0_5 p0_2)), .unset, .unset, .unset, .unset, .unset, .unset] [])) _
        refine Xk0_2.ldc2DoubleC hx hown (mvT hZ (hw _ (List.mem_of_getElem? (i := 37) rfl))) (g := (mkF m 87 #[.val (.int p0_0), .val (.int p0_1), .val (.int p0_2), .val (.long (own_v0_0 p0_0)), .second, .val (.long (own_v0_1 p0_1)), .second, .val (.long (own_v0_2 p0_0 p0_1)), .second, .val (.long (own_v0_3 p0_0 p0_1)), .second, .val (.long (own_v0_4 p0_0 p0_1)), .second, .val (.int (own_v0_5 p0_2)), .unset, .unset, .unset, .unset, .unset, .unset] [])) rfl (hb hby at_87) _ ?_
        show Steps p.tables e below (Tk0_2.setTop (mkF m 90 #[.val (.int p0_0), .val (.int p0_1), .val (.int p0_2), .val (.long (own_v0_0 p0_0)), .second, .val (.long (own_v0_1 p0_1)), .second, .val (.long (own_v0_2 p0_0 p0_1)), .second, .val (.long (own_v0_3 p0_0 p0_1)), .second, .val (.long (own_v0_4 p0_0 p0_1)), .second, .val (.int (own_v0_5 p0_2)), .unset, .unset, .unset, .unset, .unset, .unset] [(.double (9079256848778919936 : UInt64))])) _
        refine XS.dstore Xk0_2.here hx rfl (hb hby at_90) rfl (l' := #[.val (.int p0_0), .val (.int p0_1), .val (.int p0_2), .val (.long (own_v0_0 p0_0)), .second, .val (.long (own_v0_1 p0_1)), .second, .val (.long (own_v0_2 p0_0 p0_1)), .second, .val (.long (own_v0_3 p0_0 p0_1)), .second, .val (.long (own_v0_4 p0_0 p0_1)), .second, .val (.int (own_v0_5 p0_2)), .val (.double (9079256848778919936 : UInt64)), .second, .unset, .unset, .unset, .unset]) rfl ?_
        show Steps p.tables e below (Tk0_2.setTop (mkF m 92 #[.val (.int p0_0), .val (.int p0_1), .val (.int p0_2), .val (.long (own_v0_0 p0_0)), .second, .val (.long (own_v0_1 p0_1)), .second, .val (.long (own_v0_2 p0_0 p0_1)), .second, .val (.long (own_v0_3 p0_0 p0_1)), .second, .val (.long (own_v0_4 p0_0 p0_1)), .second, .val (.int (own_v0_5 p0_2)), .val (.double (9079256848778919936 : UInt64)), .second, .unset, .unset, .unset, .unset] [])) _
        refine XT.lload Xk0_2.here hx rfl (hb hby at_92) rfl ?_
        show Steps p.tables e below (Tk0_2.setTop (mkF m 94 #[.val (.int p0_0), .val (.int p0_1), .val (.int p0_2), .val (.long (own_v0_0 p0_0)), .second, .val (.long (own_v0_1 p0_1)), .second, .val (.long (own_v0_2 p0_0 p0_1)), .second, .val (.long (own_v0_3 p0_0 p0_1)), .second, .val (.long (own_v0_4 p0_0 p0_1)), .second, .val (.int (own_v0_5 p0_2)), .val (.double (9079256848778919936 : UInt64)), .second, .unset, .unset, .unset, .unset] [(.long (own_v0_4 p0_0 p0_1))])) _
        refine XS.l2dS Xk0_2.here hx rfl (hb hby at_94) rfl rfl ?_
        show Steps p.tables e below (Tk0_2.setTop (mkF m 95 #[.val (.int p0_0), .val (.int p0_1), .val (.int p0_2), .val (.long (own_v0_0 p0_0)), .second, .val (.long (own_v0_1 p0_1)), .second, .val (.long (own_v0_2 p0_0 p0_1)), .second, .val (.long (own_v0_3 p0_0 p0_1)), .second, .val (.long (own_v0_4 p0_0 p0_1)), .second, .val (.int (own_v0_5 p0_2)), .val (.double (9079256848778919936 : UInt64)), .second, .unset, .unset, .unset, .unset] [(.double (FP.l2d (own_v0_4 p0_0 p0_1)))])) _
        refine Xk0_2.ldc2DoubleC hx hown (mvT hZ (hw _ (List.mem_of_getElem? (i := 38) rfl))) (g := (mkF m 95 #[.val (.int p0_0), .val (.int p0_1), .val (.int p0_2), .val (.long (own_v0_0 p0_0)), .second, .val (.long (own_v0_1 p0_1)), .second, .val (.long (own_v0_2 p0_0 p0_1)), .second, .val (.long (own_v0_3 p0_0 p0_1)), .second, .val (.long (own_v0_4 p0_0 p0_1)), .second, .val (.int (own_v0_5 p0_2)), .val (.double (9079256848778919936 : UInt64)), .second, .unset, .unset, .unset, .unset] [(.double (FP.l2d (own_v0_4 p0_0 p0_1)))])) rfl (hb hby at_95) _ ?_
        show Steps p.tables e below (Tk0_2.setTop (mkF m 98 #[.val (.int p0_0), .val (.int p0_1), .val (.int p0_2), .val (.long (own_v0_0 p0_0)), .second, .val (.long (own_v0_1 p0_1)), .second, .val (.long (own_v0_2 p0_0 p0_1)), .second, .val (.long (own_v0_3 p0_0 p0_1)), .second, .val (.long (own_v0_4 p0_0 p0_1)), .second, .val (.int (own_v0_5 p0_2)), .val (.double (9079256848778919936 : UInt64)), .second, .unset, .unset, .unset, .unset] [(.double (9074753249151549440 : UInt64)), (.double (FP.l2d (own_v0_4 p0_0 p0_1)))])) _
        refine XS.dmulS Xk0_2.here hx rfl (hb hby at_98) rfl nn98 rfl ?_
        show Steps p.tables e below (Tk0_2.setTop (mkF m 99 #[.val (.int p0_0), .val (.int p0_1), .val (.int p0_2), .val (.long (own_v0_0 p0_0)), .second, .val (.long (own_v0_1 p0_1)), .second, .val (.long (own_v0_2 p0_0 p0_1)), .second, .val (.long (own_v0_3 p0_0 p0_1)), .second, .val (.long (own_v0_4 p0_0 p0_1)), .second, .val (.int (own_v0_5 p0_2)), .val (.double (9079256848778919936 : UInt64)), .second, .unset, .unset, .unset, .unset] [(.double (FP.dmul (FP.l2d (own_v0_4 p0_0 p0_1)) (9074753249151549440 : UInt64)))])) _
        refine XS.dstore Xk0_2.here hx rfl (hb hby at_99) rfl (l' := #[.val (.int p0_0), .val (.int p0_1), .val (.int p0_2), .val (.long (own_v0_0 p0_0)), .second, .val (.long (own_v0_1 p0_1)), .second, .val (.long (own_v0_2 p0_0 p0_1)), .second, .val (.long (own_v0_3 p0_0 p0_1)), .second, .val (.long (own_v0_4 p0_0 p0_1)), .second, .val (.int (own_v0_5 p0_2)), .val (.double (9079256848778919936 : UInt64)), .second, .val (.double (own_v0_8 p0_0 p0_1)), .second, .unset, .unset]) rfl ?_
        show Steps p.tables e below (Tk0_2.setTop (mkF m 101 #[.val (.int p0_0), .val (.int p0_1), .val (.int p0_2), .val (.long (own_v0_0 p0_0)), .second, .val (.long (own_v0_1 p0_1)), .second, .val (.long (own_v0_2 p0_0 p0_1)), .second, .val (.long (own_v0_3 p0_0 p0_1)), .second, .val (.long (own_v0_4 p0_0 p0_1)), .second, .val (.int (own_v0_5 p0_2)), .val (.double (9079256848778919936 : UInt64)), .second, .val (.double (own_v0_8 p0_0 p0_1)), .second, .unset, .unset] [])) _
        refine XS.goto Xk0_2.here hx rfl (pc0 := 101) (pc' := 148) rfl (hb hby at_101) (by decide) (by decide) ?_
        show Steps p.tables e below (Tk0_2.setTop (mkF m 148 #[.val (.int p0_0), .val (.int p0_1), .val (.int p0_2), .val (.long (own_v0_0 p0_0)), .second, .val (.long (own_v0_1 p0_1)), .second, .val (.long (own_v0_2 p0_0 p0_1)), .second, .val (.long (own_v0_3 p0_0 p0_1)), .second, .val (.long (own_v0_4 p0_0 p0_1)), .second, .val (.int (own_v0_5 p0_2)), .val (.double (9079256848778919936 : UInt64)), .second, .val (.double (own_v0_8 p0_0 p0_1)), .second, .unset, .unset] [])) _
        refine stn0_14 _ ?_
        show Steps p.tables e below (Tn0_14.setTop (mkF m 151 #[.val (.int p0_0), .val (.int p0_1), .val (.int p0_2), .val (.long (own_v0_0 p0_0)), .second, .val (.long (own_v0_1 p0_1)), .second, .val (.long (own_v0_2 p0_0 p0_1)), .second, .val (.long (own_v0_3 p0_0 p0_1)), .second, .val (.long (own_v0_4 p0_0 p0_1)), .second, .val (.int (own_v0_5 p0_2)), .val (.double (9079256848778919936 : UInt64)), .second, .val (.double (own_v0_8 p0_0 p0_1)), .second, .unset, .unset] [(.ref bn0_14)])) _
        refine XS.dup Xn0_14.here hx rfl (hb hby at_151) rfl rfl ?_
        show Steps p.tables e below (Tn0_14.setTop (mkF m 152 #[.val (.int p0_0), .val (.int p0_1), .val (.int p0_2), .val (.long (own_v0_0 p0_0)), .second, .val (.long (own_v0_1 p0_1)), .second, .val (.long (own_v0_2 p0_0 p0_1)), .second, .val (.long (own_v0_3 p0_0 p0_1)), .second, .val (.long (own_v0_4 p0_0 p0_1)), .second, .val (.int (own_v0_5 p0_2)), .val (.double (9079256848778919936 : UInt64)), .second, .val (.double (own_v0_8 p0_0 p0_1)), .second, .unset, .unset] [(.ref bn0_14), (.ref bn0_14)])) _
        refine XT.lload Xn0_14.here hx rfl (hb hby at_152) rfl ?_
        show Steps p.tables e below (Tn0_14.setTop (mkF m 154 #[.val (.int p0_0), .val (.int p0_1), .val (.int p0_2), .val (.long (own_v0_0 p0_0)), .second, .val (.long (own_v0_1 p0_1)), .second, .val (.long (own_v0_2 p0_0 p0_1)), .second, .val (.long (own_v0_3 p0_0 p0_1)), .second, .val (.long (own_v0_4 p0_0 p0_1)), .second, .val (.int (own_v0_5 p0_2)), .val (.double (9079256848778919936 : UInt64)), .second, .val (.double (own_v0_8 p0_0 p0_1)), .second, .unset, .unset] [(.long (own_v0_2 p0_0 p0_1)), (.ref bn0_14), (.ref bn0_14)])) _
        refine XS.l2dS Xn0_14.here hx rfl (hb hby at_154) rfl rfl ?_
        show Steps p.tables e below (Tn0_14.setTop (mkF m 155 #[.val (.int p0_0), .val (.int p0_1), .val (.int p0_2), .val (.long (own_v0_0 p0_0)), .second, .val (.long (own_v0_1 p0_1)), .second, .val (.long (own_v0_2 p0_0 p0_1)), .second, .val (.long (own_v0_3 p0_0 p0_1)), .second, .val (.long (own_v0_4 p0_0 p0_1)), .second, .val (.int (own_v0_5 p0_2)), .val (.double (9079256848778919936 : UInt64)), .second, .val (.double (own_v0_8 p0_0 p0_1)), .second, .unset, .unset] [(.double (FP.l2d (own_v0_2 p0_0 p0_1))), (.ref bn0_14), (.ref bn0_14)])) _
        refine XS.dload Xn0_14.here hx rfl (hb hby at_155) rfl ?_
        show Steps p.tables e below (Tn0_14.setTop (mkF m 157 #[.val (.int p0_0), .val (.int p0_1), .val (.int p0_2), .val (.long (own_v0_0 p0_0)), .second, .val (.long (own_v0_1 p0_1)), .second, .val (.long (own_v0_2 p0_0 p0_1)), .second, .val (.long (own_v0_3 p0_0 p0_1)), .second, .val (.long (own_v0_4 p0_0 p0_1)), .second, .val (.int (own_v0_5 p0_2)), .val (.double (9079256848778919936 : UInt64)), .second, .val (.double (own_v0_8 p0_0 p0_1)), .second, .unset, .unset] [(.double (9079256848778919936 : UInt64)), (.double (FP.l2d (own_v0_2 p0_0 p0_1))), (.ref bn0_14), (.ref bn0_14)])) _
        refine XS.dmulS Xn0_14.here hx rfl (hb hby at_157) rfl nn157_2 rfl ?_
        show Steps p.tables e below (Tn0_14.setTop (mkF m 158 #[.val (.int p0_0), .val (.int p0_1), .val (.int p0_2), .val (.long (own_v0_0 p0_0)), .second, .val (.long (own_v0_1 p0_1)), .second, .val (.long (own_v0_2 p0_0 p0_1)), .second, .val (.long (own_v0_3 p0_0 p0_1)), .second, .val (.long (own_v0_4 p0_0 p0_1)), .second, .val (.int (own_v0_5 p0_2)), .val (.double (9079256848778919936 : UInt64)), .second, .val (.double (own_v0_8 p0_0 p0_1)), .second, .unset, .unset] [(.double (FP.dmul (FP.l2d (own_v0_2 p0_0 p0_1)) (9079256848778919936 : UInt64))), (.ref bn0_14), (.ref bn0_14)])) _
        refine XT.lload Xn0_14.here hx rfl (hb hby at_158) rfl ?_
        show Steps p.tables e below (Tn0_14.setTop (mkF m 160 #[.val (.int p0_0), .val (.int p0_1), .val (.int p0_2), .val (.long (own_v0_0 p0_0)), .second, .val (.long (own_v0_1 p0_1)), .second, .val (.long (own_v0_2 p0_0 p0_1)), .second, .val (.long (own_v0_3 p0_0 p0_1)), .second, .val (.long (own_v0_4 p0_0 p0_1)), .second, .val (.int (own_v0_5 p0_2)), .val (.double (9079256848778919936 : UInt64)), .second, .val (.double (own_v0_8 p0_0 p0_1)), .second, .unset, .unset] [(.long (own_v0_3 p0_0 p0_1)), (.double (FP.dmul (FP.l2d (own_v0_2 p0_0 p0_1)) (9079256848778919936 : UInt64))), (.ref bn0_14), (.ref bn0_14)])) _
        refine XS.l2dS Xn0_14.here hx rfl (hb hby at_160) rfl rfl ?_
        show Steps p.tables e below (Tn0_14.setTop (mkF m 161 #[.val (.int p0_0), .val (.int p0_1), .val (.int p0_2), .val (.long (own_v0_0 p0_0)), .second, .val (.long (own_v0_1 p0_1)), .second, .val (.long (own_v0_2 p0_0 p0_1)), .second, .val (.long (own_v0_3 p0_0 p0_1)), .second, .val (.long (own_v0_4 p0_0 p0_1)), .second, .val (.int (own_v0_5 p0_2)), .val (.double (9079256848778919936 : UInt64)), .second, .val (.double (own_v0_8 p0_0 p0_1)), .second, .unset, .unset] [(.double (FP.l2d (own_v0_3 p0_0 p0_1))), (.double (FP.dmul (FP.l2d (own_v0_2 p0_0 p0_1)) (9079256848778919936 : UInt64))), (.ref bn0_14), (.ref bn0_14)])) _
        refine XS.dload Xn0_14.here hx rfl (hb hby at_161) rfl ?_
        show Steps p.tables e below (Tn0_14.setTop (mkF m 163 #[.val (.int p0_0), .val (.int p0_1), .val (.int p0_2), .val (.long (own_v0_0 p0_0)), .second, .val (.long (own_v0_1 p0_1)), .second, .val (.long (own_v0_2 p0_0 p0_1)), .second, .val (.long (own_v0_3 p0_0 p0_1)), .second, .val (.long (own_v0_4 p0_0 p0_1)), .second, .val (.int (own_v0_5 p0_2)), .val (.double (9079256848778919936 : UInt64)), .second, .val (.double (own_v0_8 p0_0 p0_1)), .second, .unset, .unset] [(.double (9079256848778919936 : UInt64)), (.double (FP.l2d (own_v0_3 p0_0 p0_1))), (.double (FP.dmul (FP.l2d (own_v0_2 p0_0 p0_1)) (9079256848778919936 : UInt64))), (.ref bn0_14), (.ref bn0_14)])) _
        refine XS.dmulS Xn0_14.here hx rfl (hb hby at_163) rfl nn163_2 rfl ?_
        show Steps p.tables e below (Tn0_14.setTop (mkF m 164 #[.val (.int p0_0), .val (.int p0_1), .val (.int p0_2), .val (.long (own_v0_0 p0_0)), .second, .val (.long (own_v0_1 p0_1)), .second, .val (.long (own_v0_2 p0_0 p0_1)), .second, .val (.long (own_v0_3 p0_0 p0_1)), .second, .val (.long (own_v0_4 p0_0 p0_1)), .second, .val (.int (own_v0_5 p0_2)), .val (.double (9079256848778919936 : UInt64)), .second, .val (.double (own_v0_8 p0_0 p0_1)), .second, .unset, .unset] [(.double (FP.dmul (FP.l2d (own_v0_3 p0_0 p0_1)) (9079256848778919936 : UInt64))), (.double (FP.dmul (FP.l2d (own_v0_2 p0_0 p0_1)) (9079256848778919936 : UInt64))), (.ref bn0_14), (.ref bn0_14)])) _
        refine stk0_16.trans ?_
        show Steps p.tables e below (Tk0_16.setTop (mkF m 167 #[.val (.int p0_0), .val (.int p0_1), .val (.int p0_2), .val (.long (own_v0_0 p0_0)), .second, .val (.long (own_v0_1 p0_1)), .second, .val (.long (own_v0_2 p0_0 p0_1)), .second, .val (.long (own_v0_3 p0_0 p0_1)), .second, .val (.long (own_v0_4 p0_0 p0_1)), .second, .val (.int (own_v0_5 p0_2)), .val (.double (9079256848778919936 : UInt64)), .second, .val (.double (own_v0_8 p0_0 p0_1)), .second, .unset, .unset] [(.ref bn0_14)])) _
        refine XS.astore Xk0_16.here hx rfl (hb hby at_167) rfl rfl (l' := #[.val (.int p0_0), .val (.int p0_1), .val (.int p0_2), .val (.long (own_v0_0 p0_0)), .second, .val (.long (own_v0_1 p0_1)), .second, .val (.long (own_v0_2 p0_0 p0_1)), .second, .val (.long (own_v0_3 p0_0 p0_1)), .second, .val (.long (own_v0_4 p0_0 p0_1)), .second, .val (.int (own_v0_5 p0_2)), .val (.double (9079256848778919936 : UInt64)), .second, .val (.double (own_v0_8 p0_0 p0_1)), .second, .val (.ref bn0_14), .unset]) rfl ?_
        show Steps p.tables e below (Tk0_16.setTop (mkF m 169 #[.val (.int p0_0), .val (.int p0_1), .val (.int p0_2), .val (.long (own_v0_0 p0_0)), .second, .val (.long (own_v0_1 p0_1)), .second, .val (.long (own_v0_2 p0_0 p0_1)), .second, .val (.long (own_v0_3 p0_0 p0_1)), .second, .val (.long (own_v0_4 p0_0 p0_1)), .second, .val (.int (own_v0_5 p0_2)), .val (.double (9079256848778919936 : UInt64)), .second, .val (.double (own_v0_8 p0_0 p0_1)), .second, .val (.ref bn0_14), .unset] [])) _
        refine XS.aload Xk0_16.here hx rfl (hb hby at_169) rfl rfl ?_
        show Steps p.tables e below (Tk0_16.setTop (mkF m 171 #[.val (.int p0_0), .val (.int p0_1), .val (.int p0_2), .val (.long (own_v0_0 p0_0)), .second, .val (.long (own_v0_1 p0_1)), .second, .val (.long (own_v0_2 p0_0 p0_1)), .second, .val (.long (own_v0_3 p0_0 p0_1)), .second, .val (.long (own_v0_4 p0_0 p0_1)), .second, .val (.int (own_v0_5 p0_2)), .val (.double (9079256848778919936 : UInt64)), .second, .val (.double (own_v0_8 p0_0 p0_1)), .second, .val (.ref bn0_14), .unset] [(.ref bn0_14)])) _
        refine stk0_18.trans ?_
        show Steps p.tables e below (Tk0_18.setTop (mkF m 174 #[.val (.int p0_0), .val (.int p0_1), .val (.int p0_2), .val (.long (own_v0_0 p0_0)), .second, .val (.long (own_v0_1 p0_1)), .second, .val (.long (own_v0_2 p0_0 p0_1)), .second, .val (.long (own_v0_3 p0_0 p0_1)), .second, .val (.long (own_v0_4 p0_0 p0_1)), .second, .val (.int (own_v0_5 p0_2)), .val (.double (9079256848778919936 : UInt64)), .second, .val (.double (own_v0_8 p0_0 p0_1)), .second, .val (.ref bn0_14), .unset] [(.double (own_r6_2 (FP.dmul (FP.l2d (own_v0_2 p0_0 p0_1)) (9079256848778919936 : UInt64)) (FP.dmul (FP.l2d (own_v0_3 p0_0 p0_1)) (9079256848778919936 : UInt64))))])) _
        refine XS.dload Xk0_18.here hx rfl (hb hby at_174) rfl ?_
        show Steps p.tables e below (Tk0_18.setTop (mkF m 176 #[.val (.int p0_0), .val (.int p0_1), .val (.int p0_2), .val (.long (own_v0_0 p0_0)), .second, .val (.long (own_v0_1 p0_1)), .second, .val (.long (own_v0_2 p0_0 p0_1)), .second, .val (.long (own_v0_3 p0_0 p0_1)), .second, .val (.long (own_v0_4 p0_0 p0_1)), .second, .val (.int (own_v0_5 p0_2)), .val (.double (9079256848778919936 : UInt64)), .second, .val (.double (own_v0_8 p0_0 p0_1)), .second, .val (.ref bn0_14), .unset] [(.double (own_v0_8 p0_0 p0_1)), (.double (own_r6_2 (FP.dmul (FP.l2d (own_v0_2 p0_0 p0_1)) (9079256848778919936 : UInt64)) (FP.dmul (FP.l2d (own_v0_3 p0_0 p0_1)) (9079256848778919936 : UInt64))))])) _
        refine XS.dcmpS Xk0_18.here hx rfl (hb hby at_176) rfl rfl ?_
        show Steps p.tables e below (Tk0_18.setTop (mkF m 177 #[.val (.int p0_0), .val (.int p0_1), .val (.int p0_2), .val (.long (own_v0_0 p0_0)), .second, .val (.long (own_v0_1 p0_1)), .second, .val (.long (own_v0_2 p0_0 p0_1)), .second, .val (.long (own_v0_3 p0_0 p0_1)), .second, .val (.long (own_v0_4 p0_0 p0_1)), .second, .val (.int (own_v0_5 p0_2)), .val (.double (9079256848778919936 : UInt64)), .second, .val (.double (own_v0_8 p0_0 p0_1)), .second, .val (.ref bn0_14), .unset] [(.int (cmpValue (FP.dcmp (own_r6_2 (FP.dmul (FP.l2d (own_v0_2 p0_0 p0_1)) (9079256848778919936 : UInt64)) (FP.dmul (FP.l2d (own_v0_3 p0_0 p0_1)) (9079256848778919936 : UInt64))) (own_v0_8 p0_0 p0_1)) .l))])) _
        refine XS.ifNo Xk0_18.here hx rfl (hb hby at_177) rfl (XT.i0_ne_f hc177_2) ?_
        show Steps p.tables e below (Tk0_18.setTop (mkF m 180 #[.val (.int p0_0), .val (.int p0_1), .val (.int p0_2), .val (.long (own_v0_0 p0_0)), .second, .val (.long (own_v0_1 p0_1)), .second, .val (.long (own_v0_2 p0_0 p0_1)), .second, .val (.long (own_v0_3 p0_0 p0_1)), .second, .val (.long (own_v0_4 p0_0 p0_1)), .second, .val (.int (own_v0_5 p0_2)), .val (.double (9079256848778919936 : UInt64)), .second, .val (.double (own_v0_8 p0_0 p0_1)), .second, .val (.ref bn0_14), .unset] [])) _
        refine XS.iconst Xk0_18.here hx rfl (hb hby at_180) ?_
        show Steps p.tables e below (Tk0_18.setTop (mkF m 181 #[.val (.int p0_0), .val (.int p0_1), .val (.int p0_2), .val (.long (own_v0_0 p0_0)), .second, .val (.long (own_v0_1 p0_1)), .second, .val (.long (own_v0_2 p0_0 p0_1)), .second, .val (.long (own_v0_3 p0_0 p0_1)), .second, .val (.long (own_v0_4 p0_0 p0_1)), .second, .val (.int (own_v0_5 p0_2)), .val (.double (9079256848778919936 : UInt64)), .second, .val (.double (own_v0_8 p0_0 p0_1)), .second, .val (.ref bn0_14), .unset] [(.int (1 : Int32))])) _
        refine XS.goto Xk0_18.here hx rfl (pc0 := 181) (pc' := 185) rfl (hb hby at_181) (by decide) (by decide) ?_
        show Steps p.tables e below (Tk0_18.setTop (mkF m 185 #[.val (.int p0_0), .val (.int p0_1), .val (.int p0_2), .val (.long (own_v0_0 p0_0)), .second, .val (.long (own_v0_1 p0_1)), .second, .val (.long (own_v0_2 p0_0 p0_1)), .second, .val (.long (own_v0_3 p0_0 p0_1)), .second, .val (.long (own_v0_4 p0_0 p0_1)), .second, .val (.int (own_v0_5 p0_2)), .val (.double (9079256848778919936 : UInt64)), .second, .val (.double (own_v0_8 p0_0 p0_1)), .second, .val (.ref bn0_14), .unset] [(.int (1 : Int32))])) _
        exact retN Xk0_18 hx (t := .boolean) Bd.returns (by simp) (hb hby at_185) hr
      · show own_Q0 Z p0_0 p0_1 p0_2 h0 n0 _ Tk0_18.heap _
        rw [ek0_18]
        exact ⟨rfl, Nk0_18⟩
    · have K0_19 : ∀ t, Steps p.tables e below (Tk0_2.setTop (mkF m 104 #[.val (.int p0_0), .val (.int p0_1), .val (.int p0_2), .val (.long (own_v0_0 p0_0)), .second, .val (.long (own_v0_1 p0_1)), .second, .val (.long (own_v0_2 p0_0 p0_1)), .second, .val (.long (own_v0_3 p0_0 p0_1)), .second, .val (.long (own_v0_4 p0_0 p0_1)), .second, .val (.int (own_v0_5 p0_2)), .unset, .unset, .unset, .unset, .unset, .unset] [])) t → Steps p.tables e below (Tk0_2.setTop (mkF m 84 #[.val (.int p0_0), .val (.int p0_1), .val (.int p0_2), .val (.long (own_v0_0 p0_0)), .second, .val (.long (own_v0_1 p0_1)), .second, .val (.long (own_v0_2 p0_0 p0_1)), .second, .val (.long (own_v0_3 p0_0 p0_1)), .second, .val (.long (own_v0_4 p0_0 p0_1)), .second, .val (.int (own_v0_5 p0_2)), .unset, .unset, .unset, .unset, .unset, .unset] [(.int (1 : Int32)), (.int (own_v0_5 p0_2))])) t := by
        intro t kt
        show Steps p.tables e below (Tk0_2.setTop (mkF m 84 #[.val (.int p0_0), .val (.int p0_1), .val (.int p0_2), .val (.long (own_v0_0 p0_0)), .second, .val (.long (own_v0_1 p0_1)), .second, .val (.long (own_v0_2 p0_0 p0_1)), .second, .val (.long (own_v0_3 p0_0 p0_1)), .second, .val (.long (own_v0_4 p0_0 p0_1)), .second, .val (.int (own_v0_5 p0_2)), .unset, .unset, .unset, .unset, .unset, .unset] [(.int (1 : Int32)), (.int (own_v0_5 p0_2))])) _
        refine XS.icmpYes Xk0_2.here hx rfl (pc0 := 84) (pc' := 104) rfl (hb hby at_84) rfl (XT.ii_ne_t hs0_12) (by decide) (by decide) ?_
        exact kt
      obtain ⟨Tj0_20, lj0_20, Xj0_20, Nj0_20, ej0_20, stj0_20⟩ : ∃ (T' : State) (l' : List Loc), Stand p l e room_1 s m #[(.int p0_0), (.int p0_1), (.int p0_2)] below meth c T' l' 0 0 ∧ Fr n0 l' ∧ T'.heap = h0 ∧ ∀ target, Steps p.tables e below (T'.setTop (mkF m 139 #[.val (.int p0_0), .val (.int p0_1), .val (.int p0_2), .val (.long (own_v0_0 p0_0)), .second, .val (.long (own_v0_1 p0_1)), .second, .val (.long (own_v0_2 p0_0 p0_1)), .second, .val (.long (own_v0_3 p0_0 p0_1)), .second, .val (.long (own_v0_4 p0_0 p0_1)), .second, .val (.int (own_v0_5 p0_2)), .val (.double (1 : UInt64)), .second, .unset, .unset, .val (.long (own_j0_12 p0_0 p0_1)), .second] [])) target → Steps p.tables e below (Tk0_2.setTop (mkF m 121 #[.val (.int p0_0), .val (.int p0_1), .val (.int p0_2), .val (.long (own_v0_0 p0_0)), .second, .val (.long (own_v0_1 p0_1)), .second, .val (.long (own_v0_2 p0_0 p0_1)), .second, .val (.long (own_v0_3 p0_0 p0_1)), .second, .val (.long (own_v0_4 p0_0 p0_1)), .second, .val (.int (own_v0_5 p0_2)), .val (.double (1 : UInt64)), .second, .unset, .unset, .val (.long (own_v0_9 p0_0 p0_1)), .second] [(.int (XT.cmpL ((own_v0_4 p0_0 p0_1) &&& (1 : Int64)) (0 : Int64)))])) target := by
        by_cases hj0_20 : ((own_v0_4 p0_0 p0_1) &&& (1 : Int64)) = (0 : Int64)
        · refine ⟨_, _, Xk0_2, Nk0_2, ek0_2, fun target kt => ?_⟩
          rw [(show (own_j0_12 p0_0 p0_1) = (own_v0_9 p0_0 p0_1) from if_pos hj0_20)] at kt
          show Steps p.tables e below (Tk0_2.setTop (mkF m 121 #[.val (.int p0_0), .val (.int p0_1), .val (.int p0_2), .val (.long (own_v0_0 p0_0)), .second, .val (.long (own_v0_1 p0_1)), .second, .val (.long (own_v0_2 p0_0 p0_1)), .second, .val (.long (own_v0_3 p0_0 p0_1)), .second, .val (.long (own_v0_4 p0_0 p0_1)), .second, .val (.int (own_v0_5 p0_2)), .val (.double (1 : UInt64)), .second, .unset, .unset, .val (.long (own_v0_9 p0_0 p0_1)), .second] [(.int (XT.cmpL ((own_v0_4 p0_0 p0_1) &&& (1 : Int64)) (0 : Int64)))])) _
          refine XS.ifYes Xk0_2.here hx rfl (pc0 := 121) (pc' := 139) rfl (hb hby at_121) rfl (XT.ll_eq_t hj0_20) (by decide) (by decide) ?_
          exact kt
        · obtain ⟨Tj0_21, lj0_21, Xj0_21, Nj0_21, ej0_21, stj0_21⟩ : ∃ (T' : State) (l' : List Loc), Stand p l e room_1 s m #[(.int p0_0), (.int p0_1), (.int p0_2)] below meth c T' l' 0 0 ∧ Fr n0 l' ∧ T'.heap = h0 ∧ ∀ target, Steps p.tables e below (T'.setTop (mkF m 139 #[.val (.int p0_0), .val (.int p0_1), .val (.int p0_2), .val (.long (own_v0_0 p0_0)), .second, .val (.long (own_v0_1 p0_1)), .second, .val (.long (own_v0_2 p0_0 p0_1)), .second, .val (.long (own_v0_3 p0_0 p0_1)), .second, .val (.long (own_v0_4 p0_0 p0_1)), .second, .val (.int (own_v0_5 p0_2)), .val (.double (1 : UInt64)), .second, .unset, .unset, .val (.long (own_j0_11 p0_0 p0_1)), .second] [])) target → Steps p.tables e below (Tk0_2.setTop (mkF m 130 #[.val (.int p0_0), .val (.int p0_1), .val (.int p0_2), .val (.long (own_v0_0 p0_0)), .second, .val (.long (own_v0_1 p0_1)), .second, .val (.long (own_v0_2 p0_0 p0_1)), .second, .val (.long (own_v0_3 p0_0 p0_1)), .second, .val (.long (own_v0_4 p0_0 p0_1)), .second, .val (.int (own_v0_5 p0_2)), .val (.double (1 : UInt64)), .second, .unset, .unset, .val (.long (own_v0_9 p0_0 p0_1)), .second] [(.int (XT.cmpL ((own_v0_9 p0_0 p0_1) &&& (1 : Int64)) (0 : Int64)))])) target := by
            by_cases hj0_21 : ((own_v0_9 p0_0 p0_1) &&& (1 : Int64)) = (0 : Int64)
            · refine ⟨_, _, Xk0_2, Nk0_2, ek0_2, fun target kt => ?_⟩
              rw [(show (own_j0_11 p0_0 p0_1) = (own_v0_9 p0_0 p0_1) from if_pos hj0_21)] at kt
              show Steps p.tables e below (Tk0_2.setTop (mkF m 130 #[.val (.int p0_0), .val (.int p0_1), .val (.int p0_2), .val (.long (own_v0_0 p0_0)), .second, .val (.long (own_v0_1 p0_1)), .second, .val (.long (own_v0_2 p0_0 p0_1)), .second, .val (.long (own_v0_3 p0_0 p0_1)), .second, .val (.long (own_v0_4 p0_0 p0_1)), .second, .val (.int (own_v0_5 p0_2)), .val (.double (1 : UInt64)), .second, .unset, .unset, .val (.long (own_v0_9 p0_0 p0_1)), .second] [(.int (XT.cmpL ((own_v0_9 p0_0 p0_1) &&& (1 : Int64)) (0 : Int64)))])) _
              refine XS.ifYes Xk0_2.here hx rfl (pc0 := 130) (pc' := 139) rfl (hb hby at_130) rfl (XT.ll_eq_t hj0_21) (by decide) (by decide) ?_
              exact kt
            · refine ⟨_, _, Xk0_2, Nk0_2, ek0_2, fun target kt => ?_⟩
              rw [(show (own_j0_11 p0_0 p0_1) = (own_v0_10 p0_0 p0_1) from if_neg hj0_21)] at kt
              show Steps p.tables e below (Tk0_2.setTop (mkF m 130 #[.val (.int p0_0), .val (.int p0_1), .val (.int p0_2), .val (.long (own_v0_0 p0_0)), .second, .val (.long (own_v0_1 p0_1)), .second, .val (.long (own_v0_2 p0_0 p0_1)), .second, .val (.long (own_v0_3 p0_0 p0_1)), .second, .val (.long (own_v0_4 p0_0 p0_1)), .second, .val (.int (own_v0_5 p0_2)), .val (.double (1 : UInt64)), .second, .unset, .unset, .val (.long (own_v0_9 p0_0 p0_1)), .second] [(.int (XT.cmpL ((own_v0_9 p0_0 p0_1) &&& (1 : Int64)) (0 : Int64)))])) _
              refine XS.ifNo Xk0_2.here hx rfl (hb hby at_130) rfl (XT.ll_eq_f hj0_21) ?_
              show Steps p.tables e below (Tk0_2.setTop (mkF m 133 #[.val (.int p0_0), .val (.int p0_1), .val (.int p0_2), .val (.long (own_v0_0 p0_0)), .second, .val (.long (own_v0_1 p0_1)), .second, .val (.long (own_v0_2 p0_0 p0_1)), .second, .val (.long (own_v0_3 p0_0 p0_1)), .second, .val (.long (own_v0_4 p0_0 p0_1)), .second, .val (.int (own_v0_5 p0_2)), .val (.double (1 : UInt64)), .second, .unset, .unset, .val (.long (own_v0_9 p0_0 p0_1)), .second] [])) _
              refine XT.lload Xk0_2.here hx rfl (hb hby at_133) rfl ?_
              show Steps p.tables e below (Tk0_2.setTop (mkF m 135 #[.val (.int p0_0), .val (.int p0_1), .val (.int p0_2), .val (.long (own_v0_0 p0_0)), .second, .val (.long (own_v0_1 p0_1)), .second, .val (.long (own_v0_2 p0_0 p0_1)), .second, .val (.long (own_v0_3 p0_0 p0_1)), .second, .val (.long (own_v0_4 p0_0 p0_1)), .second, .val (.int (own_v0_5 p0_2)), .val (.double (1 : UInt64)), .second, .unset, .unset, .val (.long (own_v0_9 p0_0 p0_1)), .second] [(.long (own_v0_9 p0_0 p0_1))])) _
              refine XT.lconst Xk0_2.here hx rfl (hb hby at_135) ?_
              show Steps p.tables e below (Tk0_2.setTop (mkF m 136 #[.val (.int p0_0), .val (.int p0_1), .val (.int p0_2), .val (.long (own_v0_0 p0_0)), .second, .val (.long (own_v0_1 p0_1)), .second, .val (.long (own_v0_2 p0_0 p0_1)), .second, .val (.long (own_v0_3 p0_0 p0_1)), .second, .val (.long (own_v0_4 p0_0 p0_1)), .second, .val (.int (own_v0_5 p0_2)), .val (.double (1 : UInt64)), .second, .unset, .unset, .val (.long (own_v0_9 p0_0 p0_1)), .second] [(.long (1 : Int64)), (.long (own_v0_9 p0_0 p0_1))])) _
              refine XT.ladd Xk0_2.here hx rfl (hb hby at_136) rfl ?_
              show Steps p.tables e below (Tk0_2.setTop (mkF m 137 #[.val (.int p0_0), .val (.int p0_1), .val (.int p0_2), .val (.long (own_v0_0 p0_0)), .second, .val (.long (own_v0_1 p0_1)), .second, .val (.long (own_v0_2 p0_0 p0_1)), .second, .val (.long (own_v0_3 p0_0 p0_1)), .second, .val (.long (own_v0_4 p0_0 p0_1)), .second, .val (.int (own_v0_5 p0_2)), .val (.double (1 : UInt64)), .second, .unset, .unset, .val (.long (own_v0_9 p0_0 p0_1)), .second] [(.long ((own_v0_9 p0_0 p0_1) + (1 : Int64)))])) _
              refine XT.lstore Xk0_2.here hx rfl (hb hby at_137) rfl (l' := #[.val (.int p0_0), .val (.int p0_1), .val (.int p0_2), .val (.long (own_v0_0 p0_0)), .second, .val (.long (own_v0_1 p0_1)), .second, .val (.long (own_v0_2 p0_0 p0_1)), .second, .val (.long (own_v0_3 p0_0 p0_1)), .second, .val (.long (own_v0_4 p0_0 p0_1)), .second, .val (.int (own_v0_5 p0_2)), .val (.double (1 : UInt64)), .second, .unset, .unset, .val (.long (own_v0_10 p0_0 p0_1)), .second]) rfl ?_
              exact kt
          refine ⟨_, _, Xj0_21, Nj0_21, ej0_21, fun target kt => ?_⟩
          rw [(show (own_j0_12 p0_0 p0_1) = (own_j0_11 p0_0 p0_1) from if_neg hj0_20)] at kt
          show Steps p.tables e below (Tk0_2.setTop (mkF m 121 #[.val (.int p0_0), .val (.int p0_1), .val (.int p0_2), .val (.long (own_v0_0 p0_0)), .second, .val (.long (own_v0_1 p0_1)), .second, .val (.long (own_v0_2 p0_0 p0_1)), .second, .val (.long (own_v0_3 p0_0 p0_1)), .second, .val (.long (own_v0_4 p0_0 p0_1)), .second, .val (.int (own_v0_5 p0_2)), .val (.double (1 : UInt64)), .second, .unset, .unset, .val (.long (own_v0_9 p0_0 p0_1)), .second] [(.int (XT.cmpL ((own_v0_4 p0_0 p0_1) &&& (1 : Int64)) (0 : Int64)))])) _
          refine XS.ifNo Xk0_2.here hx rfl (hb hby at_121) rfl (XT.ll_eq_f hj0_20) ?_
          show Steps p.tables e below (Tk0_2.setTop (mkF m 124 #[.val (.int p0_0), .val (.int p0_1), .val (.int p0_2), .val (.long (own_v0_0 p0_0)), .second, .val (.long (own_v0_1 p0_1)), .second, .val (.long (own_v0_2 p0_0 p0_1)), .second, .val (.long (own_v0_3 p0_0 p0_1)), .second, .val (.long (own_v0_4 p0_0 p0_1)), .second, .val (.int (own_v0_5 p0_2)), .val (.double (1 : UInt64)), .second, .unset, .unset, .val (.long (own_v0_9 p0_0 p0_1)), .second] [])) _
          refine XT.lload Xk0_2.here hx rfl (hb hby at_124) rfl ?_
          show Steps p.tables e below (Tk0_2.setTop (mkF m 126 #[.val (.int p0_0), .val (.int p0_1), .val (.int p0_2), .val (.long (own_v0_0 p0_0)), .second, .val (.long (own_v0_1 p0_1)), .second, .val (.long (own_v0_2 p0_0 p0_1)), .second, .val (.long (own_v0_3 p0_0 p0_1)), .second, .val (.long (own_v0_4 p0_0 p0_1)), .second, .val (.int (own_v0_5 p0_2)), .val (.double (1 : UInt64)), .second, .unset, .unset, .val (.long (own_v0_9 p0_0 p0_1)), .second] [(.long (own_v0_9 p0_0 p0_1))])) _
          refine XT.lconst Xk0_2.here hx rfl (hb hby at_126) ?_
          show Steps p.tables e below (Tk0_2.setTop (mkF m 127 #[.val (.int p0_0), .val (.int p0_1), .val (.int p0_2), .val (.long (own_v0_0 p0_0)), .second, .val (.long (own_v0_1 p0_1)), .second, .val (.long (own_v0_2 p0_0 p0_1)), .second, .val (.long (own_v0_3 p0_0 p0_1)), .second, .val (.long (own_v0_4 p0_0 p0_1)), .second, .val (.int (own_v0_5 p0_2)), .val (.double (1 : UInt64)), .second, .unset, .unset, .val (.long (own_v0_9 p0_0 p0_1)), .second] [(.long (1 : Int64)), (.long (own_v0_9 p0_0 p0_1))])) _
          refine XT.land Xk0_2.here hx rfl (hb hby at_127) rfl ?_
          show Steps p.tables e below (Tk0_2.setTop (mkF m 128 #[.val (.int p0_0), .val (.int p0_1), .val (.int p0_2), .val (.long (own_v0_0 p0_0)), .second, .val (.long (own_v0_1 p0_1)), .second, .val (.long (own_v0_2 p0_0 p0_1)), .second, .val (.long (own_v0_3 p0_0 p0_1)), .second, .val (.long (own_v0_4 p0_0 p0_1)), .second, .val (.int (own_v0_5 p0_2)), .val (.double (1 : UInt64)), .second, .unset, .unset, .val (.long (own_v0_9 p0_0 p0_1)), .second] [(.long ((own_v0_9 p0_0 p0_1) &&& (1 : Int64)))])) _
          refine XT.lconst Xk0_2.here hx rfl (hb hby at_128) ?_
          show Steps p.tables e below (Tk0_2.setTop (mkF m 129 #[.val (.int p0_0), .val (.int p0_1), .val (.int p0_2), .val (.long (own_v0_0 p0_0)), .second, .val (.long (own_v0_1 p0_1)), .second, .val (.long (own_v0_2 p0_0 p0_1)), .second, .val (.long (own_v0_3 p0_0 p0_1)), .second, .val (.long (own_v0_4 p0_0 p0_1)), .second, .val (.int (own_v0_5 p0_2)), .val (.double (1 : UInt64)), .second, .unset, .unset, .val (.long (own_v0_9 p0_0 p0_1)), .second] [(.long (0 : Int64)), (.long ((own_v0_9 p0_0 p0_1) &&& (1 : Int64)))])) _
          refine XT.lcmp Xk0_2.here hx rfl (hb hby at_129) rfl ?_
          show Steps p.tables e below (Tk0_2.setTop (mkF m 130 #[.val (.int p0_0), .val (.int p0_1), .val (.int p0_2), .val (.long (own_v0_0 p0_0)), .second, .val (.long (own_v0_1 p0_1)), .second, .val (.long (own_v0_2 p0_0 p0_1)), .second, .val (.long (own_v0_3 p0_0 p0_1)), .second, .val (.long (own_v0_4 p0_0 p0_1)), .second, .val (.int (own_v0_5 p0_2)), .val (.double (1 : UInt64)), .second, .unset, .unset, .val (.long (own_v0_9 p0_0 p0_1)), .second] [(.int (XT.cmpL ((own_v0_9 p0_0 p0_1) &&& (1 : Int64)) (0 : Int64)))])) _
          refine stj0_21 _ ?_
          exact kt
      obtain ⟨Tn0_22, hn0_22, Xn0_22, en0_22, En0_22, An0_22, Dn0_22, -, stn0_22⟩ := newO Xj0_20 hx hZ hown (hw _ (List.mem_of_getElem? (i := 10) rfl)) (hw _ (List.mem_of_getElem? (i := 11) rfl)) (hw _ (List.mem_of_getElem? (i := 12) rfl)) ej0_20 (g := (mkF m 148 #[.val (.int p0_0), .val (.int p0_1), .val (.int p0_2), .val (.long (own_v0_0 p0_0)), .second, .val (.long (own_v0_1 p0_1)), .second, .val (.long (own_v0_2 p0_0 p0_1)), .second, .val (.long (own_v0_3 p0_0 p0_1)), .second, .val (.long (own_v0_4 p0_0 p0_1)), .second, .val (.int (own_v0_5 p0_2)), .val (.double (1 : UInt64)), .second, .val (.double (own_v0_13 p0_0 p0_1)), .second, .val (.long (own_j0_12 p0_0 p0_1)), .second] [])) rfl (hb hby at_148) (by decide) (by decide)
      obtain ⟨bn0_22, gn0_22⟩ : ∃ z, z = h0.size := ⟨_, rfl⟩
      rw [← gn0_22] at An0_22 Dn0_22 stn0_22
      have g_bn0_22 : n0 ≤ bn0_22 := Nat.le_trans Z0 (Nat.le_of_eq gn0_22.symm)
      have sz_bn0_22 : h0.size ≤ bn0_22 := Nat.le_trans Zr (Nat.le_of_eq gn0_22.symm)
      have sz0_23 : h0.size ≤ hn0_22.size := Nat.le_trans Zr En0_22.1
      have F_lower_bn0_22 : Fld Z hn0_22 bn0_22 "com/example/surepath/surepath/Interval" "lower" "D" (.double (0 : UInt64)) := Dn0_22 (Or.inr (hw _ (List.mem_of_getElem? (i := 27) rfl))) (ty := .double) (by decide)
      have F_upper_bn0_22 : Fld Z hn0_22 bn0_22 "com/example/surepath/surepath/Interval" "upper" "D" (.double (0 : UInt64)) := Dn0_22 (Or.inr (hw _ (List.mem_of_getElem? (i := 29) rfl))) (ty := .double) (by decide)
      obtain ⟨_, _, ⟨Tk0_24, Lk0_24, kk0_24, nk0_24⟩, -, Xk0_24, ⟨Lck0_24, hQk0_24, lk0_24, yk0_24, zk0_24⟩, stk0_24⟩ := Xn0_22.specialBack hx (y := (⟨"com/example/surepath/surepath/Interval", "<init>", "(DD)V"⟩ : MethodName)) rfl hown (mvT hZ (hw _ (List.mem_of_getElem? (i := 13) rfl))) (mvT hZ (hw _ (List.mem_of_getElem? (i := 14) rfl))) (mvT hZ (hw _ (List.mem_of_getElem? (i := 15) rfl))) (by decide) (backOf (W := 1) (own_rm3 l Z a0 hw [] bn0_22 (FP.dmul (FP.l2d (own_v0_2 p0_0 p0_1)) (1 : UInt64)) (FP.dmul (FP.l2d (own_v0_3 p0_0 p0_1)) (1 : UInt64)) (.double (0 : UInt64)) (.double (0 : UInt64)) hn0_22 n0 (Nat.le_trans Z0 sz0_23) An0_22 F_lower_bn0_22 g_bn0_22 F_upper_bn0_22 c164_hc43_4 c164_hc52_4 c164_hc43_2_3 c164_hc52_2_3 c164_hc79_3) hZ (hw _ (List.mem_of_getElem? (i := 15) rfl)) (hw _ (List.mem_of_getElem? (i := 12) rfl)) (by decide) (by decide)) (g := (mkF m 164 #[.val (.int p0_0), .val (.int p0_1), .val (.int p0_2), .val (.long (own_v0_0 p0_0)), .second, .val (.long (own_v0_1 p0_1)), .second, .val (.long (own_v0_2 p0_0 p0_1)), .second, .val (.long (own_v0_3 p0_0 p0_1)), .second, .val (.long (own_v0_4 p0_0 p0_1)), .second, .val (.int (own_v0_5 p0_2)), .val (.double (1 : UInt64)), .second, .val (.double (own_v0_13 p0_0 p0_1)), .second, .val (.long (own_j0_12 p0_0 p0_1)), .second] [(.double (FP.dmul (FP.l2d (own_v0_3 p0_0 p0_1)) (1 : UInt64))), (.double (FP.dmul (FP.l2d (own_v0_2 p0_0 p0_1)) (1 : UInt64))), (.ref bn0_22), (.ref bn0_22)])) rfl (by rw [hml]; rfl) (Steps.refl _) (a := bn0_22) (argsL := [(.double (FP.dmul (FP.l2d (own_v0_2 p0_0 p0_1)) (1 : UInt64))), (.double (FP.dmul (FP.l2d (own_v0_3 p0_0 p0_1)) (1 : UInt64)))]) (rest := [(.ref bn0_22)]) (lenOf own_pd2 rfl) rfl (by show 2 * 0 + _ ≤ _; exact Nat.le_of_eq rfl) (hb hby at_164) (fun _ _ => ⟨rfl, en0_22, (by decide : 1 + 1 ≤ _), (by decide : 2 + 2 ≤ _)⟩)
      dsimp only [Pt.U, Pt.locs, Pt.cells, Pt.slots] at Xk0_24 lk0_24 yk0_24 zk0_24 stk0_24 hQk0_24
      subst lk0_24 yk0_24 zk0_24
      obtain ⟨rfl, Nk0_24q, Kk0_24, Qk0_24_0, Qk0_24_1, Qk0_24_2⟩ := hQk0_24
      have sz0_25 : h0.size ≤ Tk0_24.heap.size := Nat.le_trans sz0_23 Kk0_24.1
      have Nk0_24 := Fr.app Nj0_20 Nk0_24q
      obtain ⟨cqk0_26, kqk0_26, qk0_26a, qk0_26b, qk0_26c⟩ := isOf hZ rfl Qk0_24_0
      obtain ⟨_, _, ⟨Tk0_26, Lk0_26, kk0_26, nk0_26⟩, -, Xk0_26, ⟨Lck0_26, hQk0_26, lk0_26, yk0_26, zk0_26⟩, stk0_26⟩ := Xk0_24.virtualBack hx (y := (⟨"com/example/surepath/surepath/Interval", "centre", "()D"⟩ : MethodName)) (z := (⟨"com/example/surepath/surepath/Interval", "centre", "()D"⟩ : MethodName)) hown (mvT hZ (hw _ (List.mem_of_getElem? (i := 30) rfl))) (mvT hZ (hw _ (List.mem_of_getElem? (i := 31) rfl))) (notFace_of_selects (args := #[]) (mvT hZ (hw _ (List.mem_of_getElem? (i := 33) rfl)))) (mvT hZ (hw _ (List.mem_of_getElem? (i := 33) rfl))) (mvT hZ (hw _ (List.mem_of_getElem? (i := 32) rfl))) (by decide) (backOf (W := 0) (own_rm6 l Z a0 hw [] bn0_22 (FP.dmul (FP.l2d (own_v0_2 p0_0 p0_1)) (1 : UInt64)) (FP.dmul (FP.l2d (own_v0_3 p0_0 p0_1)) (1 : UInt64)) Tk0_24.heap n0 (Nat.le_trans Z0 sz0_25) Qk0_24_1 Qk0_24_2 c171_nn8_3 c171_nn22_3 c171_nn33_3 c171_nn41_3 c171_nn42_3) hZ (hw _ (List.mem_of_getElem? (i := 34) rfl)) (hw _ (List.mem_of_getElem? (i := 12) rfl)) (by decide) (by decide)) qk0_26a qk0_26c (g := (mkF m 171 #[.val (.int p0_0), .val (.int p0_1), .val (.int p0_2), .val (.long (own_v0_0 p0_0)), .second, .val (.long (own_v0_1 p0_1)), .second, .val (.long (own_v0_2 p0_0 p0_1)), .second, .val (.long (own_v0_3 p0_0 p0_1)), .second, .val (.long (own_v0_4 p0_0 p0_1)), .second, .val (.int (own_v0_5 p0_2)), .val (.double (1 : UInt64)), .second, .val (.double (own_v0_13 p0_0 p0_1)), .second, .val (.ref bn0_22), .unset] [(.ref bn0_22)])) rfl (by rw [hml]; rfl) (Steps.refl _) (argsL := []) (rest := []) (lenOf own_pd3 rfl) rfl (by show 2 * 0 + _ ≤ _; exact Nat.le_of_eq rfl) (hb hby at_171) (fun _ _ => ⟨rfl, rfl, (by decide : 2 + 0 ≤ _), (by decide : 4 + 0 ≤ _)⟩)
      dsimp only [Pt.U, Pt.locs, Pt.cells, Pt.slots] at Xk0_26 lk0_26 yk0_26 zk0_26 stk0_26 hQk0_26
      subst lk0_26 yk0_26 zk0_26
      obtain ⟨rfl, Nk0_26q, ek0_26⟩ := hQk0_26
      have Nk0_26 := Fr.app Nk0_24 Nk0_26q
      obtain ⟨fs, hr, hrun, hended, hW, hsame⟩ := Xk0_26.leave (v := some (.int (1 : Int32))) (fun h => by rw [Bd.returns] at h; cases h)
      refine ⟨_, _, pre0 _ (Ks0_3 _ (K0_11 _ (Ks0_12 _ (K0_19 _ (?_))))), hrun, hended, _, _, rfl, ?_, ⟨_, rfl⟩, hW, hsame.mono (by decide) (by decide)⟩
      · show Steps p.tables e below (Tk0_2.setTop (mkF m 104 #[.val (.int p0_0), .val (.int p0_1), .val (.int p0_2), .val (.long (own_v0_0 p0_0)), .second, .val (.long (own_v0_1 p0_1)), .second, .val (.long (own_v0_2 p0_0 p0_1)), .second, .val (.long (own_v0_3 p0_0 p0_1)), .second, .val (.long (own_v0_4 p0_0 p0_1)), .second, .val (.int (own_v0_5 p0_2)), .unset, .unset, .unset, .unset, .unset, .unset] [])) _
        refine Xk0_2.ldc2DoubleC hx hown (mvT hZ (hw _ (List.mem_of_getElem? (i := 9) rfl))) (g := (mkF m 104 #[.val (.int p0_0), .val (.int p0_1), .val (.int p0_2), .val (.long (own_v0_0 p0_0)), .second, .val (.long (own_v0_1 p0_1)), .second, .val (.long (own_v0_2 p0_0 p0_1)), .second, .val (.long (own_v0_3 p0_0 p0_1)), .second, .val (.long (own_v0_4 p0_0 p0_1)), .second, .val (.int (own_v0_5 p0_2)), .unset, .unset, .unset, .unset, .unset, .unset] [])) rfl (hb hby at_104) _ ?_
        show Steps p.tables e below (Tk0_2.setTop (mkF m 107 #[.val (.int p0_0), .val (.int p0_1), .val (.int p0_2), .val (.long (own_v0_0 p0_0)), .second, .val (.long (own_v0_1 p0_1)), .second, .val (.long (own_v0_2 p0_0 p0_1)), .second, .val (.long (own_v0_3 p0_0 p0_1)), .second, .val (.long (own_v0_4 p0_0 p0_1)), .second, .val (.int (own_v0_5 p0_2)), .unset, .unset, .unset, .unset, .unset, .unset] [(.double (1 : UInt64))])) _
        refine XS.dstore Xk0_2.here hx rfl (hb hby at_107) rfl (l' := #[.val (.int p0_0), .val (.int p0_1), .val (.int p0_2), .val (.long (own_v0_0 p0_0)), .second, .val (.long (own_v0_1 p0_1)), .second, .val (.long (own_v0_2 p0_0 p0_1)), .second, .val (.long (own_v0_3 p0_0 p0_1)), .second, .val (.long (own_v0_4 p0_0 p0_1)), .second, .val (.int (own_v0_5 p0_2)), .val (.double (1 : UInt64)), .second, .unset, .unset, .unset, .unset]) rfl ?_
        show Steps p.tables e below (Tk0_2.setTop (mkF m 109 #[.val (.int p0_0), .val (.int p0_1), .val (.int p0_2), .val (.long (own_v0_0 p0_0)), .second, .val (.long (own_v0_1 p0_1)), .second, .val (.long (own_v0_2 p0_0 p0_1)), .second, .val (.long (own_v0_3 p0_0 p0_1)), .second, .val (.long (own_v0_4 p0_0 p0_1)), .second, .val (.int (own_v0_5 p0_2)), .val (.double (1 : UInt64)), .second, .unset, .unset, .unset, .unset] [])) _
        refine XT.lload Xk0_2.here hx rfl (hb hby at_109) rfl ?_
        show Steps p.tables e below (Tk0_2.setTop (mkF m 111 #[.val (.int p0_0), .val (.int p0_1), .val (.int p0_2), .val (.long (own_v0_0 p0_0)), .second, .val (.long (own_v0_1 p0_1)), .second, .val (.long (own_v0_2 p0_0 p0_1)), .second, .val (.long (own_v0_3 p0_0 p0_1)), .second, .val (.long (own_v0_4 p0_0 p0_1)), .second, .val (.int (own_v0_5 p0_2)), .val (.double (1 : UInt64)), .second, .unset, .unset, .unset, .unset] [(.long (own_v0_4 p0_0 p0_1))])) _
        refine XS.iconst Xk0_2.here hx rfl (hb hby at_111) ?_
        show Steps p.tables e below (Tk0_2.setTop (mkF m 112 #[.val (.int p0_0), .val (.int p0_1), .val (.int p0_2), .val (.long (own_v0_0 p0_0)), .second, .val (.long (own_v0_1 p0_1)), .second, .val (.long (own_v0_2 p0_0 p0_1)), .second, .val (.long (own_v0_3 p0_0 p0_1)), .second, .val (.long (own_v0_4 p0_0 p0_1)), .second, .val (.int (own_v0_5 p0_2)), .val (.double (1 : UInt64)), .second, .unset, .unset, .unset, .unset] [(.int (1 : Int32)), (.long (own_v0_4 p0_0 p0_1))])) _
        refine XT.lshr Xk0_2.here hx rfl (hb hby at_112) rfl ?_
        show Steps p.tables e below (Tk0_2.setTop (mkF m 113 #[.val (.int p0_0), .val (.int p0_1), .val (.int p0_2), .val (.long (own_v0_0 p0_0)), .second, .val (.long (own_v0_1 p0_1)), .second, .val (.long (own_v0_2 p0_0 p0_1)), .second, .val (.long (own_v0_3 p0_0 p0_1)), .second, .val (.long (own_v0_4 p0_0 p0_1)), .second, .val (.int (own_v0_5 p0_2)), .val (.double (1 : UInt64)), .second, .unset, .unset, .unset, .unset] [(.long ((own_v0_4 p0_0 p0_1) >>> ((1 : Int32).toInt64 &&& 63)))])) _
        refine XT.lstore Xk0_2.here hx rfl (hb hby at_113) rfl (l' := #[.val (.int p0_0), .val (.int p0_1), .val (.int p0_2), .val (.long (own_v0_0 p0_0)), .second, .val (.long (own_v0_1 p0_1)), .second, .val (.long (own_v0_2 p0_0 p0_1)), .second, .val (.long (own_v0_3 p0_0 p0_1)), .second, .val (.long (own_v0_4 p0_0 p0_1)), .second, .val (.int (own_v0_5 p0_2)), .val (.double (1 : UInt64)), .second, .unset, .unset, .val (.long (own_v0_9 p0_0 p0_1)), .second]) rfl ?_
        show Steps p.tables e below (Tk0_2.setTop (mkF m 115 #[.val (.int p0_0), .val (.int p0_1), .val (.int p0_2), .val (.long (own_v0_0 p0_0)), .second, .val (.long (own_v0_1 p0_1)), .second, .val (.long (own_v0_2 p0_0 p0_1)), .second, .val (.long (own_v0_3 p0_0 p0_1)), .second, .val (.long (own_v0_4 p0_0 p0_1)), .second, .val (.int (own_v0_5 p0_2)), .val (.double (1 : UInt64)), .second, .unset, .unset, .val (.long (own_v0_9 p0_0 p0_1)), .second] [])) _
        refine XT.lload Xk0_2.here hx rfl (hb hby at_115) rfl ?_
        show Steps p.tables e below (Tk0_2.setTop (mkF m 117 #[.val (.int p0_0), .val (.int p0_1), .val (.int p0_2), .val (.long (own_v0_0 p0_0)), .second, .val (.long (own_v0_1 p0_1)), .second, .val (.long (own_v0_2 p0_0 p0_1)), .second, .val (.long (own_v0_3 p0_0 p0_1)), .second, .val (.long (own_v0_4 p0_0 p0_1)), .second, .val (.int (own_v0_5 p0_2)), .val (.double (1 : UInt64)), .second, .unset, .unset, .val (.long (own_v0_9 p0_0 p0_1)), .second] [(.long (own_v0_4 p0_0 p0_1))])) _
        refine XT.lconst Xk0_2.here hx rfl (hb hby at_117) ?_
        show Steps p.tables e below (Tk0_2.setTop (mkF m 118 #[.val (.int p0_0), .val (.int p0_1), .val (.int p0_2), .val (.long (own_v0_0 p0_0)), .second, .val (.long (own_v0_1 p0_1)), .second, .val (.long (own_v0_2 p0_0 p0_1)), .second, .val (.long (own_v0_3 p0_0 p0_1)), .second, .val (.long (own_v0_4 p0_0 p0_1)), .second, .val (.int (own_v0_5 p0_2)), .val (.double (1 : UInt64)), .second, .unset, .unset, .val (.long (own_v0_9 p0_0 p0_1)), .second] [(.long (1 : Int64)), (.long (own_v0_4 p0_0 p0_1))])) _
        refine XT.land Xk0_2.here hx rfl (hb hby at_118) rfl ?_
        show Steps p.tables e below (Tk0_2.setTop (mkF m 119 #[.val (.int p0_0), .val (.int p0_1), .val (.int p0_2), .val (.long (own_v0_0 p0_0)), .second, .val (.long (own_v0_1 p0_1)), .second, .val (.long (own_v0_2 p0_0 p0_1)), .second, .val (.long (own_v0_3 p0_0 p0_1)), .second, .val (.long (own_v0_4 p0_0 p0_1)), .second, .val (.int (own_v0_5 p0_2)), .val (.double (1 : UInt64)), .second, .unset, .unset, .val (.long (own_v0_9 p0_0 p0_1)), .second] [(.long ((own_v0_4 p0_0 p0_1) &&& (1 : Int64)))])) _
        refine XT.lconst Xk0_2.here hx rfl (hb hby at_119) ?_
        show Steps p.tables e below (Tk0_2.setTop (mkF m 120 #[.val (.int p0_0), .val (.int p0_1), .val (.int p0_2), .val (.long (own_v0_0 p0_0)), .second, .val (.long (own_v0_1 p0_1)), .second, .val (.long (own_v0_2 p0_0 p0_1)), .second, .val (.long (own_v0_3 p0_0 p0_1)), .second, .val (.long (own_v0_4 p0_0 p0_1)), .second, .val (.int (own_v0_5 p0_2)), .val (.double (1 : UInt64)), .second, .unset, .unset, .val (.long (own_v0_9 p0_0 p0_1)), .second] [(.long (0 : Int64)), (.long ((own_v0_4 p0_0 p0_1) &&& (1 : Int64)))])) _
        refine XT.lcmp Xk0_2.here hx rfl (hb hby at_120) rfl ?_
        show Steps p.tables e below (Tk0_2.setTop (mkF m 121 #[.val (.int p0_0), .val (.int p0_1), .val (.int p0_2), .val (.long (own_v0_0 p0_0)), .second, .val (.long (own_v0_1 p0_1)), .second, .val (.long (own_v0_2 p0_0 p0_1)), .second, .val (.long (own_v0_3 p0_0 p0_1)), .second, .val (.long (own_v0_4 p0_0 p0_1)), .second, .val (.int (own_v0_5 p0_2)), .val (.double (1 : UInt64)), .second, .unset, .unset, .val (.long (own_v0_9 p0_0 p0_1)), .second] [(.int (XT.cmpL ((own_v0_4 p0_0 p0_1) &&& (1 : Int64)) (0 : Int64)))])) _
        refine stj0_20 _ ?_
        show Steps p.tables e below (Tj0_20.setTop (mkF m 139 #[.val (.int p0_0), .val (.int p0_1), .val (.int p0_2), .val (.long (own_v0_0 p0_0)), .second, .val (.long (own_v0_1 p0_1)), .second, .val (.long (own_v0_2 p0_0 p0_1)), .second, .val (.long (own_v0_3 p0_0 p0_1)), .second, .val (.long (own_v0_4 p0_0 p0_1)), .second, .val (.int (own_v0_5 p0_2)), .val (.double (1 : UInt64)), .second, .unset, .unset, .val (.long (own_j0_12 p0_0 p0_1)), .second] [])) _
        refine XT.lload Xj0_20.here hx rfl (hb hby at_139) rfl ?_
        show Steps p.tables e below (Tj0_20.setTop (mkF m 141 #[.val (.int p0_0), .val (.int p0_1), .val (.int p0_2), .val (.long (own_v0_0 p0_0)), .second, .val (.long (own_v0_1 p0_1)), .second, .val (.long (own_v0_2 p0_0 p0_1)), .second, .val (.long (own_v0_3 p0_0 p0_1)), .second, .val (.long (own_v0_4 p0_0 p0_1)), .second, .val (.int (own_v0_5 p0_2)), .val (.double (1 : UInt64)), .second, .unset, .unset, .val (.long (own_j0_12 p0_0 p0_1)), .second] [(.long (own_j0_12 p0_0 p0_1))])) _
        refine XS.l2dS Xj0_20.here hx rfl (hb hby at_141) rfl rfl ?_
        show Steps p.tables e below (Tj0_20.setTop (mkF m 142 #[.val (.int p0_0), .val (.int p0_1), .val (.int p0_2), .val (.long (own_v0_0 p0_0)), .second, .val (.long (own_v0_1 p0_1)), .second, .val (.long (own_v0_2 p0_0 p0_1)), .second, .val (.long (own_v0_3 p0_0 p0_1)), .second, .val (.long (own_v0_4 p0_0 p0_1)), .second, .val (.int (own_v0_5 p0_2)), .val (.double (1 : UInt64)), .second, .unset, .unset, .val (.long (own_j0_12 p0_0 p0_1)), .second] [(.double (FP.l2d (own_j0_12 p0_0 p0_1)))])) _
        refine Xj0_20.ldc2DoubleC hx hown (mvT hZ (hw _ (List.mem_of_getElem? (i := 9) rfl))) (g := (mkF m 142 #[.val (.int p0_0), .val (.int p0_1), .val (.int p0_2), .val (.long (own_v0_0 p0_0)), .second, .val (.long (own_v0_1 p0_1)), .second, .val (.long (own_v0_2 p0_0 p0_1)), .second, .val (.long (own_v0_3 p0_0 p0_1)), .second, .val (.long (own_v0_4 p0_0 p0_1)), .second, .val (.int (own_v0_5 p0_2)), .val (.double (1 : UInt64)), .second, .unset, .unset, .val (.long (own_j0_12 p0_0 p0_1)), .second] [(.double (FP.l2d (own_j0_12 p0_0 p0_1)))])) rfl (hb hby at_142) _ ?_
        show Steps p.tables e below (Tj0_20.setTop (mkF m 145 #[.val (.int p0_0), .val (.int p0_1), .val (.int p0_2), .val (.long (own_v0_0 p0_0)), .second, .val (.long (own_v0_1 p0_1)), .second, .val (.long (own_v0_2 p0_0 p0_1)), .second, .val (.long (own_v0_3 p0_0 p0_1)), .second, .val (.long (own_v0_4 p0_0 p0_1)), .second, .val (.int (own_v0_5 p0_2)), .val (.double (1 : UInt64)), .second, .unset, .unset, .val (.long (own_j0_12 p0_0 p0_1)), .second] [(.double (1 : UInt64)), (.double (FP.l2d (own_j0_12 p0_0 p0_1)))])) _
        refine XS.dmulS Xj0_20.here hx rfl (hb hby at_145) rfl nn145 rfl ?_
        show Steps p.tables e below (Tj0_20.setTop (mkF m 146 #[.val (.int p0_0), .val (.int p0_1), .val (.int p0_2), .val (.long (own_v0_0 p0_0)), .second, .val (.long (own_v0_1 p0_1)), .second, .val (.long (own_v0_2 p0_0 p0_1)), .second, .val (.long (own_v0_3 p0_0 p0_1)), .second, .val (.long (own_v0_4 p0_0 p0_1)), .second, .val (.int (own_v0_5 p0_2)), .val (.double (1 : UInt64)), .second, .unset, .unset, .val (.long (own_j0_12 p0_0 p0_1)), .second] [(.double (FP.dmul (FP.l2d (own_j0_12 p0_0 p0_1)) (1 : UInt64)))])) _
        refine XS.dstore Xj0_20.here hx rfl (hb hby at_146) rfl (l' := #[.val (.int p0_0), .val (.int p0_1), .val (.int p0_2), .val (.long (own_v0_0 p0_0)), .second, .val (.long (own_v0_1 p0_1)), .second, .val (.long (own_v0_2 p0_0 p0_1)), .second, .val (.long (own_v0_3 p0_0 p0_1)), .second, .val (.long (own_v0_4 p0_0 p0_1)), .second, .val (.int (own_v0_5 p0_2)), .val (.double (1 : UInt64)), .second, .val (.double (own_v0_13 p0_0 p0_1)), .second, .val (.long (own_j0_12 p0_0 p0_1)), .second]) rfl ?_
        show Steps p.tables e below (Tj0_20.setTop (mkF m 148 #[.val (.int p0_0), .val (.int p0_1), .val (.int p0_2), .val (.long (own_v0_0 p0_0)), .second, .val (.long (own_v0_1 p0_1)), .second, .val (.long (own_v0_2 p0_0 p0_1)), .second, .val (.long (own_v0_3 p0_0 p0_1)), .second, .val (.long (own_v0_4 p0_0 p0_1)), .second, .val (.int (own_v0_5 p0_2)), .val (.double (1 : UInt64)), .second, .val (.double (own_v0_13 p0_0 p0_1)), .second, .val (.long (own_j0_12 p0_0 p0_1)), .second] [])) _
        refine stn0_22 _ ?_
        show Steps p.tables e below (Tn0_22.setTop (mkF m 151 #[.val (.int p0_0), .val (.int p0_1), .val (.int p0_2), .val (.long (own_v0_0 p0_0)), .second, .val (.long (own_v0_1 p0_1)), .second, .val (.long (own_v0_2 p0_0 p0_1)), .second, .val (.long (own_v0_3 p0_0 p0_1)), .second, .val (.long (own_v0_4 p0_0 p0_1)), .second, .val (.int (own_v0_5 p0_2)), .val (.double (1 : UInt64)), .second, .val (.double (own_v0_13 p0_0 p0_1)), .second, .val (.long (own_j0_12 p0_0 p0_1)), .second] [(.ref bn0_22)])) _
        refine XS.dup Xn0_22.here hx rfl (hb hby at_151) rfl rfl ?_
        show Steps p.tables e below (Tn0_22.setTop (mkF m 152 #[.val (.int p0_0), .val (.int p0_1), .val (.int p0_2), .val (.long (own_v0_0 p0_0)), .second, .val (.long (own_v0_1 p0_1)), .second, .val (.long (own_v0_2 p0_0 p0_1)), .second, .val (.long (own_v0_3 p0_0 p0_1)), .second, .val (.long (own_v0_4 p0_0 p0_1)), .second, .val (.int (own_v0_5 p0_2)), .val (.double (1 : UInt64)), .second, .val (.double (own_v0_13 p0_0 p0_1)), .second, .val (.long (own_j0_12 p0_0 p0_1)), .second] [(.ref bn0_22), (.ref bn0_22)])) _
        refine XT.lload Xn0_22.here hx rfl (hb hby at_152) rfl ?_
        show Steps p.tables e below (Tn0_22.setTop (mkF m 154 #[.val (.int p0_0), .val (.int p0_1), .val (.int p0_2), .val (.long (own_v0_0 p0_0)), .second, .val (.long (own_v0_1 p0_1)), .second, .val (.long (own_v0_2 p0_0 p0_1)), .second, .val (.long (own_v0_3 p0_0 p0_1)), .second, .val (.long (own_v0_4 p0_0 p0_1)), .second, .val (.int (own_v0_5 p0_2)), .val (.double (1 : UInt64)), .second, .val (.double (own_v0_13 p0_0 p0_1)), .second, .val (.long (own_j0_12 p0_0 p0_1)), .second] [(.long (own_v0_2 p0_0 p0_1)), (.ref bn0_22), (.ref bn0_22)])) _
        refine XS.l2dS Xn0_22.here hx rfl (hb hby at_154) rfl rfl ?_
        show Steps p.tables e below (Tn0_22.setTop (mkF m 155 #[.val (.int p0_0), .val (.int p0_1), .val (.int p0_2), .val (.long (own_v0_0 p0_0)), .second, .val (.long (own_v0_1 p0_1)), .second, .val (.long (own_v0_2 p0_0 p0_1)), .second, .val (.long (own_v0_3 p0_0 p0_1)), .second, .val (.long (own_v0_4 p0_0 p0_1)), .second, .val (.int (own_v0_5 p0_2)), .val (.double (1 : UInt64)), .second, .val (.double (own_v0_13 p0_0 p0_1)), .second, .val (.long (own_j0_12 p0_0 p0_1)), .second] [(.double (FP.l2d (own_v0_2 p0_0 p0_1))), (.ref bn0_22), (.ref bn0_22)])) _
        refine XS.dload Xn0_22.here hx rfl (hb hby at_155) rfl ?_
        show Steps p.tables e below (Tn0_22.setTop (mkF m 157 #[.val (.int p0_0), .val (.int p0_1), .val (.int p0_2), .val (.long (own_v0_0 p0_0)), .second, .val (.long (own_v0_1 p0_1)), .second, .val (.long (own_v0_2 p0_0 p0_1)), .second, .val (.long (own_v0_3 p0_0 p0_1)), .second, .val (.long (own_v0_4 p0_0 p0_1)), .second, .val (.int (own_v0_5 p0_2)), .val (.double (1 : UInt64)), .second, .val (.double (own_v0_13 p0_0 p0_1)), .second, .val (.long (own_j0_12 p0_0 p0_1)), .second] [(.double (1 : UInt64)), (.double (FP.l2d (own_v0_2 p0_0 p0_1))), (.ref bn0_22), (.ref bn0_22)])) _
        refine XS.dmulS Xn0_22.here hx rfl (hb hby at_157) rfl nn157_3 rfl ?_
        show Steps p.tables e below (Tn0_22.setTop (mkF m 158 #[.val (.int p0_0), .val (.int p0_1), .val (.int p0_2), .val (.long (own_v0_0 p0_0)), .second, .val (.long (own_v0_1 p0_1)), .second, .val (.long (own_v0_2 p0_0 p0_1)), .second, .val (.long (own_v0_3 p0_0 p0_1)), .second, .val (.long (own_v0_4 p0_0 p0_1)), .second, .val (.int (own_v0_5 p0_2)), .val (.double (1 : UInt64)), .second, .val (.double (own_v0_13 p0_0 p0_1)), .second, .val (.long (own_j0_12 p0_0 p0_1)), .second] [(.double (FP.dmul (FP.l2d (own_v0_2 p0_0 p0_1)) (1 : UInt64))), (.ref bn0_22), (.ref bn0_22)])) _
        refine XT.lload Xn0_22.here hx rfl (hb hby at_158) rfl ?_
        show Steps p.tables e below (Tn0_22.setTop (mkF m 160 #[.val (.int p0_0), .val (.int p0_1), .val (.int p0_2), .val (.long (own_v0_0 p0_0)), .second, .val (.long (own_v0_1 p0_1)), .second, .val (.long (own_v0_2 p0_0 p0_1)), .second, .val (.long (own_v0_3 p0_0 p0_1)), .second, .val (.long (own_v0_4 p0_0 p0_1)), .second, .val (.int (own_v0_5 p0_2)), .val (.double (1 : UInt64)), .second, .val (.double (own_v0_13 p0_0 p0_1)), .second, .val (.long (own_j0_12 p0_0 p0_1)), .second] [(.long (own_v0_3 p0_0 p0_1)), (.double (FP.dmul (FP.l2d (own_v0_2 p0_0 p0_1)) (1 : UInt64))), (.ref bn0_22), (.ref bn0_22)])) _
        refine XS.l2dS Xn0_22.here hx rfl (hb hby at_160) rfl rfl ?_
        show Steps p.tables e below (Tn0_22.setTop (mkF m 161 #[.val (.int p0_0), .val (.int p0_1), .val (.int p0_2), .val (.long (own_v0_0 p0_0)), .second, .val (.long (own_v0_1 p0_1)), .second, .val (.long (own_v0_2 p0_0 p0_1)), .second, .val (.long (own_v0_3 p0_0 p0_1)), .second, .val (.long (own_v0_4 p0_0 p0_1)), .second, .val (.int (own_v0_5 p0_2)), .val (.double (1 : UInt64)), .second, .val (.double (own_v0_13 p0_0 p0_1)), .second, .val (.long (own_j0_12 p0_0 p0_1)), .second] [(.double (FP.l2d (own_v0_3 p0_0 p0_1))), (.double (FP.dmul (FP.l2d (own_v0_2 p0_0 p0_1)) (1 : UInt64))), (.ref bn0_22), (.ref bn0_22)])) _
        refine XS.dload Xn0_22.here hx rfl (hb hby at_161) rfl ?_
        show Steps p.tables e below (Tn0_22.setTop (mkF m 163 #[.val (.int p0_0), .val (.int p0_1), .val (.int p0_2), .val (.long (own_v0_0 p0_0)), .second, .val (.long (own_v0_1 p0_1)), .second, .val (.long (own_v0_2 p0_0 p0_1)), .second, .val (.long (own_v0_3 p0_0 p0_1)), .second, .val (.long (own_v0_4 p0_0 p0_1)), .second, .val (.int (own_v0_5 p0_2)), .val (.double (1 : UInt64)), .second, .val (.double (own_v0_13 p0_0 p0_1)), .second, .val (.long (own_j0_12 p0_0 p0_1)), .second] [(.double (1 : UInt64)), (.double (FP.l2d (own_v0_3 p0_0 p0_1))), (.double (FP.dmul (FP.l2d (own_v0_2 p0_0 p0_1)) (1 : UInt64))), (.ref bn0_22), (.ref bn0_22)])) _
        refine XS.dmulS Xn0_22.here hx rfl (hb hby at_163) rfl nn163_3 rfl ?_
        show Steps p.tables e below (Tn0_22.setTop (mkF m 164 #[.val (.int p0_0), .val (.int p0_1), .val (.int p0_2), .val (.long (own_v0_0 p0_0)), .second, .val (.long (own_v0_1 p0_1)), .second, .val (.long (own_v0_2 p0_0 p0_1)), .second, .val (.long (own_v0_3 p0_0 p0_1)), .second, .val (.long (own_v0_4 p0_0 p0_1)), .second, .val (.int (own_v0_5 p0_2)), .val (.double (1 : UInt64)), .second, .val (.double (own_v0_13 p0_0 p0_1)), .second, .val (.long (own_j0_12 p0_0 p0_1)), .second] [(.double (FP.dmul (FP.l2d (own_v0_3 p0_0 p0_1)) (1 : UInt64))), (.double (FP.dmul (FP.l2d (own_v0_2 p0_0 p0_1)) (1 : UInt64))), (.ref bn0_22), (.ref bn0_22)])) _
        refine stk0_24.trans ?_
        show Steps p.tables e below (Tk0_24.setTop (mkF m 167 #[.val (.int p0_0), .val (.int p0_1), .val (.int p0_2), .val (.long (own_v0_0 p0_0)), .second, .val (.long (own_v0_1 p0_1)), .second, .val (.long (own_v0_2 p0_0 p0_1)), .second, .val (.long (own_v0_3 p0_0 p0_1)), .second, .val (.long (own_v0_4 p0_0 p0_1)), .second, .val (.int (own_v0_5 p0_2)), .val (.double (1 : UInt64)), .second, .val (.double (own_v0_13 p0_0 p0_1)), .second, .val (.long (own_j0_12 p0_0 p0_1)), .second] [(.ref bn0_22)])) _
        refine XS.astore Xk0_24.here hx rfl (hb hby at_167) rfl rfl (l' := #[.val (.int p0_0), .val (.int p0_1), .val (.int p0_2), .val (.long (own_v0_0 p0_0)), .second, .val (.long (own_v0_1 p0_1)), .second, .val (.long (own_v0_2 p0_0 p0_1)), .second, .val (.long (own_v0_3 p0_0 p0_1)), .second, .val (.long (own_v0_4 p0_0 p0_1)), .second, .val (.int (own_v0_5 p0_2)), .val (.double (1 : UInt64)), .second, .val (.double (own_v0_13 p0_0 p0_1)), .second, .val (.ref bn0_22), .unset]) rfl ?_
        show Steps p.tables e below (Tk0_24.setTop (mkF m 169 #[.val (.int p0_0), .val (.int p0_1), .val (.int p0_2), .val (.long (own_v0_0 p0_0)), .second, .val (.long (own_v0_1 p0_1)), .second, .val (.long (own_v0_2 p0_0 p0_1)), .second, .val (.long (own_v0_3 p0_0 p0_1)), .second, .val (.long (own_v0_4 p0_0 p0_1)), .second, .val (.int (own_v0_5 p0_2)), .val (.double (1 : UInt64)), .second, .val (.double (own_v0_13 p0_0 p0_1)), .second, .val (.ref bn0_22), .unset] [])) _
        refine XS.aload Xk0_24.here hx rfl (hb hby at_169) rfl rfl ?_
        show Steps p.tables e below (Tk0_24.setTop (mkF m 171 #[.val (.int p0_0), .val (.int p0_1), .val (.int p0_2), .val (.long (own_v0_0 p0_0)), .second, .val (.long (own_v0_1 p0_1)), .second, .val (.long (own_v0_2 p0_0 p0_1)), .second, .val (.long (own_v0_3 p0_0 p0_1)), .second, .val (.long (own_v0_4 p0_0 p0_1)), .second, .val (.int (own_v0_5 p0_2)), .val (.double (1 : UInt64)), .second, .val (.double (own_v0_13 p0_0 p0_1)), .second, .val (.ref bn0_22), .unset] [(.ref bn0_22)])) _
        refine stk0_26.trans ?_
        show Steps p.tables e below (Tk0_26.setTop (mkF m 174 #[.val (.int p0_0), .val (.int p0_1), .val (.int p0_2), .val (.long (own_v0_0 p0_0)), .second, .val (.long (own_v0_1 p0_1)), .second, .val (.long (own_v0_2 p0_0 p0_1)), .second, .val (.long (own_v0_3 p0_0 p0_1)), .second, .val (.long (own_v0_4 p0_0 p0_1)), .second, .val (.int (own_v0_5 p0_2)), .val (.double (1 : UInt64)), .second, .val (.double (own_v0_13 p0_0 p0_1)), .second, .val (.ref bn0_22), .unset] [(.double (own_r6_2 (FP.dmul (FP.l2d (own_v0_2 p0_0 p0_1)) (1 : UInt64)) (FP.dmul (FP.l2d (own_v0_3 p0_0 p0_1)) (1 : UInt64))))])) _
        refine XS.dload Xk0_26.here hx rfl (hb hby at_174) rfl ?_
        show Steps p.tables e below (Tk0_26.setTop (mkF m 176 #[.val (.int p0_0), .val (.int p0_1), .val (.int p0_2), .val (.long (own_v0_0 p0_0)), .second, .val (.long (own_v0_1 p0_1)), .second, .val (.long (own_v0_2 p0_0 p0_1)), .second, .val (.long (own_v0_3 p0_0 p0_1)), .second, .val (.long (own_v0_4 p0_0 p0_1)), .second, .val (.int (own_v0_5 p0_2)), .val (.double (1 : UInt64)), .second, .val (.double (own_v0_13 p0_0 p0_1)), .second, .val (.ref bn0_22), .unset] [(.double (own_v0_13 p0_0 p0_1)), (.double (own_r6_2 (FP.dmul (FP.l2d (own_v0_2 p0_0 p0_1)) (1 : UInt64)) (FP.dmul (FP.l2d (own_v0_3 p0_0 p0_1)) (1 : UInt64))))])) _
        refine XS.dcmpS Xk0_26.here hx rfl (hb hby at_176) rfl rfl ?_
        show Steps p.tables e below (Tk0_26.setTop (mkF m 177 #[.val (.int p0_0), .val (.int p0_1), .val (.int p0_2), .val (.long (own_v0_0 p0_0)), .second, .val (.long (own_v0_1 p0_1)), .second, .val (.long (own_v0_2 p0_0 p0_1)), .second, .val (.long (own_v0_3 p0_0 p0_1)), .second, .val (.long (own_v0_4 p0_0 p0_1)), .second, .val (.int (own_v0_5 p0_2)), .val (.double (1 : UInt64)), .second, .val (.double (own_v0_13 p0_0 p0_1)), .second, .val (.ref bn0_22), .unset] [(.int (cmpValue (FP.dcmp (own_r6_2 (FP.dmul (FP.l2d (own_v0_2 p0_0 p0_1)) (1 : UInt64)) (FP.dmul (FP.l2d (own_v0_3 p0_0 p0_1)) (1 : UInt64))) (own_v0_13 p0_0 p0_1)) .l))])) _
        refine XS.ifNo Xk0_26.here hx rfl (hb hby at_177) rfl (XT.i0_ne_f hc177_3) ?_
        show Steps p.tables e below (Tk0_26.setTop (mkF m 180 #[.val (.int p0_0), .val (.int p0_1), .val (.int p0_2), .val (.long (own_v0_0 p0_0)), .second, .val (.long (own_v0_1 p0_1)), .second, .val (.long (own_v0_2 p0_0 p0_1)), .second, .val (.long (own_v0_3 p0_0 p0_1)), .second, .val (.long (own_v0_4 p0_0 p0_1)), .second, .val (.int (own_v0_5 p0_2)), .val (.double (1 : UInt64)), .second, .val (.double (own_v0_13 p0_0 p0_1)), .second, .val (.ref bn0_22), .unset] [])) _
        refine XS.iconst Xk0_26.here hx rfl (hb hby at_180) ?_
        show Steps p.tables e below (Tk0_26.setTop (mkF m 181 #[.val (.int p0_0), .val (.int p0_1), .val (.int p0_2), .val (.long (own_v0_0 p0_0)), .second, .val (.long (own_v0_1 p0_1)), .second, .val (.long (own_v0_2 p0_0 p0_1)), .second, .val (.long (own_v0_3 p0_0 p0_1)), .second, .val (.long (own_v0_4 p0_0 p0_1)), .second, .val (.int (own_v0_5 p0_2)), .val (.double (1 : UInt64)), .second, .val (.double (own_v0_13 p0_0 p0_1)), .second, .val (.ref bn0_22), .unset] [(.int (1 : Int32))])) _
        refine XS.goto Xk0_26.here hx rfl (pc0 := 181) (pc' := 185) rfl (hb hby at_181) (by decide) (by decide) ?_
        show Steps p.tables e below (Tk0_26.setTop (mkF m 185 #[.val (.int p0_0), .val (.int p0_1), .val (.int p0_2), .val (.long (own_v0_0 p0_0)), .second, .val (.long (own_v0_1 p0_1)), .second, .val (.long (own_v0_2 p0_0 p0_1)), .second, .val (.long (own_v0_3 p0_0 p0_1)), .second, .val (.long (own_v0_4 p0_0 p0_1)), .second, .val (.int (own_v0_5 p0_2)), .val (.double (1 : UInt64)), .second, .val (.double (own_v0_13 p0_0 p0_1)), .second, .val (.ref bn0_22), .unset] [(.int (1 : Int32))])) _
        exact retN Xk0_26 hx (t := .boolean) Bd.returns (by simp) (hb hby at_185) hr
      · show own_Q0 Z p0_0 p0_1 p0_2 h0 n0 _ Tk0_26.heap _
        rw [ek0_26]
        exact ⟨rfl, Nk0_26⟩
theorem own_ab (x : Int32) : 0 ≤ (x.toInt64 &&& (2147483647 : Int64)).toInt ∧ (x.toInt64 &&& (2147483647 : Int64)).toInt < 2147483648 := by
  have h2 : (x.toInt64 &&& (2147483647 : Int64)).toInt = x.toInt64.toInt % 2 ^ 31 := Jvm.Kit.i64_mask _ _ (k := 31) (by decide) (by decide)
  rw [h2]; omega
theorem own_lh (x y : Int32) : 0 ≤ (own_v0_2 x y).toInt ∧ (own_v0_2 x y).toInt ≤ (own_v0_3 x y).toInt ∧ (own_v0_3 x y).toInt < 2147483648 := by
  have h1 := own_ab x; have h2 := own_ab y
  unfold own_v0_2 own_v0_3 own_j1_0 own_j2_0 own_v0_0 own_v0_1
  simp only [Int64.lt_iff_toInt_lt]
  generalize (x.toInt64 &&& (2147483647 : Int64)) = a at *
  generalize (y.toInt64 &&& (2147483647 : Int64)) = b at *
  split <;> split <;> omega
theorem own_s (x y : Int32) : (own_v0_4 x y).toInt = (own_v0_2 x y).toInt + (own_v0_3 x y).toInt := by
  have h := own_lh x y
  unfold own_v0_4; rw [Jvm.Kit.i64_add (by omega) (by omega)]
theorem own_sb (x y : Int32) : 0 ≤ (own_v0_4 x y).toInt ∧ (own_v0_4 x y).toInt < 4294967296 := by
  have h := own_lh x y; have := own_s x y; omega
theorem own_odd (a : Int64) : (a &&& (1 : Int64)) = (0 : Int64) ↔ a.toInt % 2 = 0 := by
  have h2 : (a &&& (1 : Int64)).toInt = a.toInt % 2 ^ 1 := Jvm.Kit.i64_mask _ _ (k := 1) (by decide) (by decide)
  have z : (0 : Int64).toInt = 0 := by decide
  rw [← Int64.toInt_inj, h2, z]; rfl
theorem own_half (a : Int64) : (a >>> ((1 : Int32).toInt64 &&& 63)).toInt = a.toInt / 2 := by
  rw [Jvm.Kit.i64_shr _ _ (k := 1) (by decide)]; rfl
theorem own_pinf : FP.Core.val64 (9218868437227405312 : UInt64) = .inf false := by decide +kernel
theorem own_zinf : own_zv (9218868437227405312 : UInt64) = ((2 ^ 2098 : Nat) : Int) := by decide +kernel
theorem own_top : FP.Core.b64.tails * 2 ^ (FP.Core.b64.exps - 2) = 2 ^ 2098 := by decide +kernel
theorem own_lt_inf {a : UInt64} (h : FP.Core.DFin a) (o : CmpOp) : cmpValue (FP.dcmp a (9218868437227405312 : UInt64)) o < (0 : Int32) := by
  rw [dcmp_pinf (own_fin64 h)]; decide
/-- one scale: lo, hi and what the constructor asks of them -/
def own_sc (m : Int) (J : Nat) (c : UInt64) : Prop := own_at m J c ∧ 0 < m ∧ m ≤ 4194304 ∧ J ≤ 2045
section S
variable {m : Int} {J : Nat} {c : UInt64}
theorem own_px (hs : own_sc m J c) (a : Int64) (h0 : 0 ≤ a.toInt) (h1 : a.toInt < 2147483648) : own_at (a.toInt * m) J (FP.dmul (FP.l2d a) c) := by
  have q : (a.toInt * m).natAbs < 2 ^ 53 := by
    have : (a.toInt * m).natAbs ≤ 2147483647 * 4194304 := by rw [Int.natAbs_mul]; exact Nat.mul_le_mul (by omega) (by have := hs.2.1; have := hs.2.2.1; omega)
    omega
  exact own_at_mul (own_at_is (own_is_l2d (by omega))) hs.1 J (by omega) q hs.2.2.2
theorem own_pg (hs : own_sc m J c) (a : Int64) (h0 : 0 ≤ a.toInt) (h1 : a.toInt < 2147483648) : ¬ ((cmpValue (FP.dcmp (FP.dmul (FP.l2d a) c) (0 : UInt64)) .l) < (0 : Int32)) := by
  have h := own_px hs a h0 h1
  refine own_cmp_ge h.1.ne_nan own_is_0.1.ne_nan ?_ _
  rw [h.2, own_is_0.2, Int.zero_mul]
  exact Int.mul_nonneg (Int.mul_nonneg h0 (by have := hs.2.1; omega)) (Int.natCast_nonneg _)
theorem own_pm (hs : own_sc m J c) (a b : Int64) (h0 : 0 ≤ a.toInt) (h : a.toInt ≤ b.toInt) (h1 : b.toInt < 2147483648) : ¬ ((0 : Int32) < (cmpValue (FP.dcmp (FP.dmul (FP.l2d a) c) (FP.dmul (FP.l2d b) c)) .l)) := by
  have ha := own_px hs a h0 (by omega); have hb := own_px hs b (by omega) h1
  refine own_cmp_le ha.1.ne_nan hb.1.ne_nan ?_ _
  rw [ha.2, hb.2]
  exact Int.mul_le_mul_of_nonneg_right (Int.mul_le_mul_of_nonneg_right h (by have := hs.2.1; omega)) (Int.natCast_nonneg _)
end S
theorem own_s1 : own_sc 1 1074 (4607182418800017408 : UInt64) := ⟨⟨by rw [FP.Core.fin_bits]; decide, by decide +kernel⟩, by decide, by decide, by decide⟩
theorem own_s2 : own_sc 4194304 2045 (9079256848778919936 : UInt64) := ⟨⟨by rw [FP.Core.fin_bits]; decide, by decide +kernel⟩, by decide, by decide, by decide⟩
theorem own_s3 : own_sc 1 0 (1 : UInt64) := ⟨⟨by rw [FP.Core.fin_bits]; decide, by decide +kernel⟩, by decide, by decide, by decide⟩
theorem own_k992 : own_at 2097152 2045 (9074753249151549440 : UInt64) := ⟨by rw [FP.Core.fin_bits]; decide, by decide +kernel⟩
theorem own_k05 : own_at 1 1073 (4602678819172646912 : UInt64) := ⟨by rw [FP.Core.fin_bits]; decide, by decide +kernel⟩
theorem own_k0 : own_at 0 1073 (0 : UInt64) := ⟨by rw [FP.Core.fin_bits]; decide, by decide +kernel⟩
section X
variable (p0_0 p0_1 p0_2 : Int32)
theorem own_xl {m : Int} {J : Nat} {c : UInt64} (hs : own_sc m J c) : own_at ((own_v0_2 p0_0 p0_1).toInt * m) J (FP.dmul (FP.l2d (own_v0_2 p0_0 p0_1)) c) := own_px hs _ (own_lh p0_0 p0_1).1 (by have := own_lh p0_0 p0_1; omega)
theorem own_xh {m : Int} {J : Nat} {c : UInt64} (hs : own_sc m J c) : own_at ((own_v0_3 p0_0 p0_1).toInt * m) J (FP.dmul (FP.l2d (own_v0_3 p0_0 p0_1)) c) := own_px hs _ (by have := own_lh p0_0 p0_1; omega) (own_lh p0_0 p0_1).2.2
/-- the sum, where it is finite -/
theorem own_sum {m : Int} {J : Nat} {c : UInt64} (hs : own_sc m J c) (h : ((own_v0_4 p0_0 p0_1).toInt * m).natAbs < 2 ^ 53) : own_at ((own_v0_4 p0_0 p0_1).toInt * m) J (own_v6_0 (FP.dmul (FP.l2d (own_v0_2 p0_0 p0_1)) c) (FP.dmul (FP.l2d (own_v0_3 p0_0 p0_1)) c)) := by
  have e : (own_v0_2 p0_0 p0_1).toInt * m + (own_v0_3 p0_0 p0_1).toInt * m = (own_v0_4 p0_0 p0_1).toInt * m := by rw [own_s, Int.add_mul]
  have := own_at_add (own_xl p0_0 p0_1 hs) (own_xh p0_0 p0_1 hs) (by rw [e]; exact h) hs.2.2.2
  rw [e] at this; exact this
theorem own_sumnn {m : Int} {J : Nat} {c : UInt64} (hs : own_sc m J c) : NoNaN64 (FP.dadd (FP.dmul (FP.l2d (own_v0_2 p0_0 p0_1)) c) (FP.dmul (FP.l2d (own_v0_3 p0_0 p0_1)) c)) := own_rnd_nn (own_dadd_rnd (own_xl p0_0 p0_1 hs).1 (own_xh p0_0 p0_1 hs).1)
theorem own_f1 : own_at ((own_v0_4 p0_0 p0_1).toInt) 1074 (own_v6_0 (FP.dmul (FP.l2d (own_v0_2 p0_0 p0_1)) (4607182418800017408 : UInt64)) (FP.dmul (FP.l2d (own_v0_3 p0_0 p0_1)) (4607182418800017408 : UInt64))) := by
  have := own_sum p0_0 p0_1 own_s1 (by rw [Int.mul_one]; have := own_sb p0_0 p0_1; omega)
  rw [Int.mul_one] at this; exact this
theorem own_f3 : own_at ((own_v0_4 p0_0 p0_1).toInt) 0 (own_v6_0 (FP.dmul (FP.l2d (own_v0_2 p0_0 p0_1)) (1 : UInt64)) (FP.dmul (FP.l2d (own_v0_3 p0_0 p0_1)) (1 : UInt64))) := by
  have := own_sum p0_0 p0_1 own_s3 (by rw [Int.mul_one]; have := own_sb p0_0 p0_1; omega)
  rw [Int.mul_one] at this; exact this
/-! scale 1 -/
theorem own_x_nn157 : NoNaN64 (FP.dmul (FP.l2d (own_v0_2 p0_0 p0_1)) (4607182418800017408 : UInt64)) := own_at_nn (own_xl p0_0 p0_1 own_s1)
theorem own_x_nn163 : NoNaN64 (FP.dmul (FP.l2d (own_v0_3 p0_0 p0_1)) (4607182418800017408 : UInt64)) := own_at_nn (own_xh p0_0 p0_1 own_s1)
theorem own_x_c164_hc43 : ¬ ((cmpValue (FP.dcmp (FP.dmul (FP.l2d (own_v0_2 p0_0 p0_1)) (4607182418800017408 : UInt64)) (0 : UInt64)) .l) < (0 : Int32)) := own_pg own_s1 _ (own_lh p0_0 p0_1).1 (by have := own_lh p0_0 p0_1; omega)
theorem own_x_c164_hc52 : (cmpValue (FP.dcmp (FP.dmul (FP.l2d (own_v0_2 p0_0 p0_1)) (4607182418800017408 : UInt64)) (9218868437227405312 : UInt64)) .g) < (0 : Int32) := own_lt_inf (own_xl p0_0 p0_1 own_s1).1 _
theorem own_x_c164_hc43_2 : ¬ ((cmpValue (FP.dcmp (FP.dmul (FP.l2d (own_v0_3 p0_0 p0_1)) (4607182418800017408 : UInt64)) (0 : UInt64)) .l) < (0 : Int32)) := own_pg own_s1 _ (by have := own_lh p0_0 p0_1; omega) (own_lh p0_0 p0_1).2.2
theorem own_x_c164_hc52_2 : (cmpValue (FP.dcmp (FP.dmul (FP.l2d (own_v0_3 p0_0 p0_1)) (4607182418800017408 : UInt64)) (9218868437227405312 : UInt64)) .g) < (0 : Int32) := own_lt_inf (own_xh p0_0 p0_1 own_s1).1 _
theorem own_x_c164_hc79 : ¬ ((0 : Int32) < (cmpValue (FP.dcmp (FP.dmul (FP.l2d (own_v0_2 p0_0 p0_1)) (4607182418800017408 : UInt64)) (FP.dmul (FP.l2d (own_v0_3 p0_0 p0_1)) (4607182418800017408 : UInt64))) .l)) := own_pm own_s1 _ _ (own_lh p0_0 p0_1).1 (own_lh p0_0 p0_1).2.1 (own_lh p0_0 p0_1).2.2
theorem own_x_c171_nn8 : NoNaN64 (FP.dadd (FP.dmul (FP.l2d (own_v0_2 p0_0 p0_1)) (4607182418800017408 : UInt64)) (FP.dmul (FP.l2d (own_v0_3 p0_0 p0_1)) (4607182418800017408 : UInt64))) := own_sumnn p0_0 p0_1 own_s1
theorem own_h1 : own_at ((own_v0_4 p0_0 p0_1).toInt) 1073 (FP.ddiv (own_v6_0 (FP.dmul (FP.l2d (own_v0_2 p0_0 p0_1)) (4607182418800017408 : UInt64)) (FP.dmul (FP.l2d (own_v0_3 p0_0 p0_1)) (4607182418800017408 : UInt64))) (4611686018427387904 : UInt64)) := own_at_divp (j := 1073) (i := 1) (own_f1 p0_0 p0_1) own_2d (by have := own_sb p0_0 p0_1; omega) (by decide)
theorem own_r1 : own_at ((own_v0_4 p0_0 p0_1).toInt) 1073 (own_v0_7 p0_0 p0_1) := by
  have hb := own_sb p0_0 p0_1
  have hh := own_half (own_v0_4 p0_0 p0_1)
  have a : own_at ((own_v0_4 p0_0 p0_1).toInt / 2 * 2) 1073 (FP.l2d ((own_v0_4 p0_0 p0_1) >>> ((1 : Int32).toInt64 &&& 63))) := by
    have hl := own_at_is (own_is_l2d (x := (own_v0_4 p0_0 p0_1) >>> ((1 : Int32).toInt64 &&& 63)) (by rw [hh]; omega))
    rw [hh] at hl
    exact own_at_up (j := 1073) (i := 1) hl
  have b : own_at ((own_v0_4 p0_0 p0_1).toInt % 2) 1073 (own_j0_6 p0_0 p0_1) := by
    unfold own_j0_6
    by_cases h : (own_v0_4 p0_0 p0_1).toInt % 2 = 0
    · rw [if_pos ((own_odd _).mpr h), h]; exact own_k0
    · rw [if_neg (fun q => h ((own_odd _).mp q)), show (own_v0_4 p0_0 p0_1).toInt % 2 = 1 by omega]; exact own_k05
  have := own_at_add a b (by omega) (by decide)
  rw [show (own_v0_4 p0_0 p0_1).toInt / 2 * 2 + (own_v0_4 p0_0 p0_1).toInt % 2 = (own_v0_4 p0_0 p0_1).toInt by omega] at this
  exact this
theorem own_x_nn75 : NoNaN64 (FP.dadd (FP.l2d ((own_v0_4 p0_0 p0_1) >>> ((1 : Int32).toInt64 &&& 63))) (own_j0_6 p0_0 p0_1)) := own_at_nn (own_r1 p0_0 p0_1)
theorem own_ct {a b : UInt64} (h : FP.Core.DFin (own_v6_0 a b)) : own_r6_2 a b = FP.ddiv (own_v6_0 a b) (4611686018427387904 : UInt64) := if_pos (own_lt_inf h _)
theorem own_x_hc177 : (cmpValue (FP.dcmp (own_r6_2 (FP.dmul (FP.l2d (own_v0_2 p0_0 p0_1)) (4607182418800017408 : UInt64)) (FP.dmul (FP.l2d (own_v0_3 p0_0 p0_1)) (4607182418800017408 : UInt64))) (own_v0_7 p0_0 p0_1)) .l) = (0 : Int32) := by
  rw [own_ct (own_f1 p0_0 p0_1).1]; exact own_at_eq (own_h1 p0_0 p0_1) (own_r1 p0_0 p0_1) _
/-! the scale 2^993 -/
theorem own_x_nn157_2 : NoNaN64 (FP.dmul (FP.l2d (own_v0_2 p0_0 p0_1)) (9079256848778919936 : UInt64)) := own_at_nn (own_xl p0_0 p0_1 own_s2)
theorem own_x_nn163_2 : NoNaN64 (FP.dmul (FP.l2d (own_v0_3 p0_0 p0_1)) (9079256848778919936 : UInt64)) := own_at_nn (own_xh p0_0 p0_1 own_s2)
theorem own_x_c164_hc43_3 : ¬ ((cmpValue (FP.dcmp (FP.dmul (FP.l2d (own_v0_2 p0_0 p0_1)) (9079256848778919936 : UInt64)) (0 : UInt64)) .l) < (0 : Int32)) := own_pg own_s2 _ (own_lh p0_0 p0_1).1 (by have := own_lh p0_0 p0_1; omega)
theorem own_x_c164_hc52_3 : (cmpValue (FP.dcmp (FP.dmul (FP.l2d (own_v0_2 p0_0 p0_1)) (9079256848778919936 : UInt64)) (9218868437227405312 : UInt64)) .g) < (0 : Int32) := own_lt_inf (own_xl p0_0 p0_1 own_s2).1 _
theorem own_x_c164_hc43_2_2 : ¬ ((cmpValue (FP.dcmp (FP.dmul (FP.l2d (own_v0_3 p0_0 p0_1)) (9079256848778919936 : UInt64)) (0 : UInt64)) .l) < (0 : Int32)) := own_pg own_s2 _ (by have := own_lh p0_0 p0_1; omega) (own_lh p0_0 p0_1).2.2
theorem own_x_c164_hc52_2_2 : (cmpValue (FP.dcmp (FP.dmul (FP.l2d (own_v0_3 p0_0 p0_1)) (9079256848778919936 : UInt64)) (9218868437227405312 : UInt64)) .g) < (0 : Int32) := own_lt_inf (own_xh p0_0 p0_1 own_s2).1 _
theorem own_x_c164_hc79_2 : ¬ ((0 : Int32) < (cmpValue (FP.dcmp (FP.dmul (FP.l2d (own_v0_2 p0_0 p0_1)) (9079256848778919936 : UInt64)) (FP.dmul (FP.l2d (own_v0_3 p0_0 p0_1)) (9079256848778919936 : UInt64))) .l)) := own_pm own_s2 _ _ (own_lh p0_0 p0_1).1 (own_lh p0_0 p0_1).2.1 (own_lh p0_0 p0_1).2.2
theorem own_x_c171_nn8_2 : NoNaN64 (FP.dadd (FP.dmul (FP.l2d (own_v0_2 p0_0 p0_1)) (9079256848778919936 : UInt64)) (FP.dmul (FP.l2d (own_v0_3 p0_0 p0_1)) (9079256848778919936 : UInt64))) := own_sumnn p0_0 p0_1 own_s2
theorem own_hl : own_at ((own_v0_2 p0_0 p0_1).toInt * 4194304) 2044 (FP.ddiv (FP.dmul (FP.l2d (own_v0_2 p0_0 p0_1)) (9079256848778919936 : UInt64)) (4611686018427387904 : UInt64)) := own_at_divp (j := 2044) (i := 1) (own_xl p0_0 p0_1 own_s2) own_2d (by have := own_lh p0_0 p0_1; omega) (by decide)
theorem own_hh : own_at ((own_v0_3 p0_0 p0_1).toInt * 4194304) 2044 (FP.ddiv (FP.dmul (FP.l2d (own_v0_3 p0_0 p0_1)) (9079256848778919936 : UInt64)) (4611686018427387904 : UInt64)) := own_at_divp (j := 2044) (i := 1) (own_xh p0_0 p0_1 own_s2) own_2d (by have := own_lh p0_0 p0_1; omega) (by decide)
theorem own_p45 : ((2 ^ 2045 : Nat) : Int) = 2 * ((2 ^ 2044 : Nat) : Int) := by decide +kernel
theorem own_hs : own_at ((own_v0_4 p0_0 p0_1).toInt * 2097152) 2045 (FP.dadd (FP.ddiv (FP.dmul (FP.l2d (own_v0_2 p0_0 p0_1)) (9079256848778919936 : UInt64)) (4611686018427387904 : UInt64)) (FP.ddiv (FP.dmul (FP.l2d (own_v0_3 p0_0 p0_1)) (9079256848778919936 : UInt64)) (4611686018427387904 : UInt64))) := by
  have a := own_hl p0_0 p0_1; have b := own_hh p0_0 p0_1; have hb := own_sb p0_0 p0_1; have hs := own_s p0_0 p0_1
  refine own_exact (own_dadd_rnd a.1 b.1) _ 2045 (by omega) (by decide) ?_
  rw [a.2, b.2, hs, Int.mul_one, own_p45]
  generalize ((2 ^ 2044 : Nat) : Int) = W at *
  show ((own_v0_2 p0_0 p0_1).toInt + (own_v0_3 p0_0 p0_1).toInt) * 2097152 * (2 * W) = (own_v0_2 p0_0 p0_1).toInt * 4194304 * W + (own_v0_3 p0_0 p0_1).toInt * 4194304 * W
  rw [← Int.mul_assoc, ← Int.add_mul]; congr 1; omega
theorem own_r2 : own_at ((own_v0_4 p0_0 p0_1).toInt * 2097152) 2045 (own_v0_8 p0_0 p0_1) := by
  have hb := own_sb p0_0 p0_1
  exact own_at_mul (own_at_is (own_is_l2d (by omega))) own_k992 2045 (by decide) (by omega) (by decide)
theorem own_x_nn98 : NoNaN64 (FP.dmul (FP.l2d (own_v0_4 p0_0 p0_1)) (9074753249151549440 : UInt64)) := own_at_nn (own_r2 p0_0 p0_1)
/-- finite just below 2^31 -/
theorem own_f2 (h : (own_v0_4 p0_0 p0_1).toInt < 2147483648) : own_at ((own_v0_4 p0_0 p0_1).toInt * 4194304) 2045 (own_v6_0 (FP.dmul (FP.l2d (own_v0_2 p0_0 p0_1)) (9079256848778919936 : UInt64)) (FP.dmul (FP.l2d (own_v0_3 p0_0 p0_1)) (9079256848778919936 : UInt64))) := own_sum p0_0 p0_1 own_s2 (by have := own_sb p0_0 p0_1; omega)
theorem own_h2 (h : (own_v0_4 p0_0 p0_1).toInt < 2147483648) : own_at ((own_v0_4 p0_0 p0_1).toInt * 2097152) 2045 (FP.ddiv (own_v6_0 (FP.dmul (FP.l2d (own_v0_2 p0_0 p0_1)) (9079256848778919936 : UInt64)) (FP.dmul (FP.l2d (own_v0_3 p0_0 p0_1)) (9079256848778919936 : UInt64))) (4611686018427387904 : UInt64)) := by
  have := own_at_divp (j := 2044) (i := 1) (own_f2 p0_0 p0_1 h) own_2d (by have := own_sb p0_0 p0_1; omega) (by decide)
  refine own_at_dn (j := 2044) (i := 1) ?_
  rw [show (own_v0_4 p0_0 p0_1).toInt * 2097152 * ((2 ^ 1 : Nat) : Int) = (own_v0_4 p0_0 p0_1).toInt * 4194304 by omega]; exact this
theorem own_pB : ((2 ^ 2098 : Nat) : Int) = 9007199254740992 * ((2 ^ 2045 : Nat) : Int) := by decide +kernel
theorem own_i2 (h : ¬ (own_v0_4 p0_0 p0_1).toInt < 2147483648) (o : CmpOp) : ¬ (cmpValue (FP.dcmp (own_v6_0 (FP.dmul (FP.l2d (own_v0_2 p0_0 p0_1)) (9079256848778919936 : UInt64)) (FP.dmul (FP.l2d (own_v0_3 p0_0 p0_1)) (9079256848778919936 : UInt64))) (9218868437227405312 : UInt64)) o < (0 : Int32)) := by
  have hr := own_dadd_rnd (own_xl p0_0 p0_1 own_s2).1 (own_xh p0_0 p0_1 own_s2).1
  have ni : FP.Core.val64 (9218868437227405312 : UInt64) ≠ .nan := by rw [own_pinf]; exact fun q => nomatch q
  refine own_cmp_ge hr.1 ni (hr.2.1 _ ni ?_) _
  have hs := own_s p0_0 p0_1
  rw [own_zinf, Int.mul_one, (own_xl p0_0 p0_1 own_s2).2, (own_xh p0_0 p0_1 own_s2).2, own_pB, ← Int.add_mul]
  refine Int.mul_le_mul_of_nonneg_right ?_ (Int.natCast_nonneg _)
  show (9007199254740992 : Int) ≤ (own_v0_2 p0_0 p0_1).toInt * 4194304 + (own_v0_3 p0_0 p0_1).toInt * 4194304
  omega
theorem own_x_c171_nn22_2 : (cmpValue (FP.dcmp (own_v6_0 (FP.dmul (FP.l2d (own_v0_2 p0_0 p0_1)) (9079256848778919936 : UInt64)) (FP.dmul (FP.l2d (own_v0_3 p0_0 p0_1)) (9079256848778919936 : UInt64))) (9218868437227405312 : UInt64)) .g) < (0 : Int32) → NoNaN64 (FP.ddiv (own_v6_0 (FP.dmul (FP.l2d (own_v0_2 p0_0 p0_1)) (9079256848778919936 : UInt64)) (FP.dmul (FP.l2d (own_v0_3 p0_0 p0_1)) (9079256848778919936 : UInt64))) (4611686018427387904 : UInt64)) := fun q => by
  by_cases h : (own_v0_4 p0_0 p0_1).toInt < 2147483648
  · exact own_at_nn (own_h2 p0_0 p0_1 h)
  · exact absurd q (own_i2 p0_0 p0_1 h _)
theorem own_x_hc177_2 : (cmpValue (FP.dcmp (own_r6_2 (FP.dmul (FP.l2d (own_v0_2 p0_0 p0_1)) (9079256848778919936 : UInt64)) (FP.dmul (FP.l2d (own_v0_3 p0_0 p0_1)) (9079256848778919936 : UInt64))) (own_v0_8 p0_0 p0_1)) .l) = (0 : Int32) := by
  by_cases h : (own_v0_4 p0_0 p0_1).toInt < 2147483648
  · rw [own_ct (own_f2 p0_0 p0_1 h).1]; exact own_at_eq (own_h2 p0_0 p0_1 h) (own_r2 p0_0 p0_1) _
  · have e : own_r6_2 (FP.dmul (FP.l2d (own_v0_2 p0_0 p0_1)) (9079256848778919936 : UInt64)) (FP.dmul (FP.l2d (own_v0_3 p0_0 p0_1)) (9079256848778919936 : UInt64)) = _ := if_neg (own_i2 p0_0 p0_1 h _)
    rw [e]; exact own_at_eq (own_hs p0_0 p0_1) (own_r2 p0_0 p0_1) _
/-! the least double as the scale -/
theorem own_x_nn157_3 : NoNaN64 (FP.dmul (FP.l2d (own_v0_2 p0_0 p0_1)) (1 : UInt64)) := own_at_nn (own_xl p0_0 p0_1 own_s3)
theorem own_x_nn163_3 : NoNaN64 (FP.dmul (FP.l2d (own_v0_3 p0_0 p0_1)) (1 : UInt64)) := own_at_nn (own_xh p0_0 p0_1 own_s3)
theorem own_x_c164_hc43_4 : ¬ ((cmpValue (FP.dcmp (FP.dmul (FP.l2d (own_v0_2 p0_0 p0_1)) (1 : UInt64)) (0 : UInt64)) .l) < (0 : Int32)) := own_pg own_s3 _ (own_lh p0_0 p0_1).1 (by have := own_lh p0_0 p0_1; omega)
theorem own_x_c164_hc52_4 : (cmpValue (FP.dcmp (FP.dmul (FP.l2d (own_v0_2 p0_0 p0_1)) (1 : UInt64)) (9218868437227405312 : UInt64)) .g) < (0 : Int32) := own_lt_inf (own_xl p0_0 p0_1 own_s3).1 _
theorem own_x_c164_hc43_2_3 : ¬ ((cmpValue (FP.dcmp (FP.dmul (FP.l2d (own_v0_3 p0_0 p0_1)) (1 : UInt64)) (0 : UInt64)) .l) < (0 : Int32)) := own_pg own_s3 _ (by have := own_lh p0_0 p0_1; omega) (own_lh p0_0 p0_1).2.2
theorem own_x_c164_hc52_2_3 : (cmpValue (FP.dcmp (FP.dmul (FP.l2d (own_v0_3 p0_0 p0_1)) (1 : UInt64)) (9218868437227405312 : UInt64)) .g) < (0 : Int32) := own_lt_inf (own_xh p0_0 p0_1 own_s3).1 _
theorem own_x_c164_hc79_3 : ¬ ((0 : Int32) < (cmpValue (FP.dcmp (FP.dmul (FP.l2d (own_v0_2 p0_0 p0_1)) (1 : UInt64)) (FP.dmul (FP.l2d (own_v0_3 p0_0 p0_1)) (1 : UInt64))) .l)) := own_pm own_s3 _ _ (own_lh p0_0 p0_1).1 (own_lh p0_0 p0_1).2.1 (own_lh p0_0 p0_1).2.2
theorem own_x_c171_nn8_3 : NoNaN64 (FP.dadd (FP.dmul (FP.l2d (own_v0_2 p0_0 p0_1)) (1 : UInt64)) (FP.dmul (FP.l2d (own_v0_3 p0_0 p0_1)) (1 : UInt64))) := own_sumnn p0_0 p0_1 own_s3
theorem own_n2 : (2 * own_U).natAbs = 2 * FP.Core.one64 := by decide +kernel
theorem own_tieN (n o : Nat) : n * o * 2 = n * (2 * o) := by rw [Nat.mul_assoc, Nat.mul_comm o]
/-- a number of least units, halved: to the even one at a tie -/
theorem own_tie {a : UInt64} {k : Int} (ha : own_at k 0 a) (h0 : 0 ≤ k) (h1 : k < 4294967296) : own_at (if k % 2 = 1 then k / 2 + (k / 2) % 2 else k / 2) 0 (FP.ddiv a (4611686018427387904 : UInt64)) := by
  have z2 : own_zv (4611686018427387904 : UInt64) = 2 * own_U := by decide +kernel
  have f2 : FP.Core.DFin (4611686018427387904 : UInt64) := by rw [FP.Core.fin_bits]; decide
  have za : own_zv a = k := by rw [ha.2]; omega
  have hU := own_U_pos
  obtain ⟨n, hn⟩ : ∃ n : Nat, k = (n : Int) := ⟨k.toNat, by omega⟩
  obtain ⟨hB, sg, hv⟩ := own_rr_ddiv ha.1 f2 (by omega)
  have cg := FP.Core.roundRatio_congr (f := FP.Core.b64) (s := sg) (A := (own_zv a).natAbs * FP.Core.one64) (B := (own_zv (4611686018427387904 : UInt64)).natAbs) (A' := n) (B' := 2) (e := FP.Core.b64.qmin) (e' := FP.Core.b64.qmin) hB (by decide) (by
    rw [own_pow0, Nat.mul_one, Nat.mul_one, za, z2, hn, Int.natAbs_natCast, own_n2]
    exact own_tieN _ _)
  rw [cg] at hv
  -- the sign is plus
  have rn := own_ddiv_rnd ha.1 f2 (by omega)
  by_cases n0 : n = 0
  · subst n0
    have e : k = 0 := by omega
    rw [if_pos (by rw [z2]; omega), za, e, Int.zero_mul] at rn
    have := own_exact rn 0 0 (by decide) (by decide) (by omega)
    rw [e]; exact this
  · have hq : FP.Core.quantum FP.Core.b64 n 2 FP.Core.b64.qmin = FP.Core.b64.qmin := by
      refine FP.Core.quantum_eq (by omega) (by decide) (Int.le_refl _) ?_ (Or.inl rfl)
      have : FP.Core.b64.p = 53 := rfl
      rw [← FP.Core.units_below, this]
      unfold FP.Core.unitsNum FP.Core.unitsDen
      rw [own_pow0, Nat.mul_one, Nat.mul_one]; omega
    have hr : FP.Core.roundRatio FP.Core.b64 sg n 2 FP.Core.b64.qmin = .fin sg (FP.Core.nearest n 2) FP.Core.b64.qmin := by
      unfold FP.Core.roundRatio
      rw [if_neg n0, hq]
      unfold FP.Core.roundAt FP.Core.unitsNum FP.Core.unitsDen FP.Core.settle FP.Core.bound
      rw [own_pow0, Nat.mul_one, Nat.mul_one]
      have nl : FP.Core.nearest n 2 ≤ n := FP.Core.nearest_le (by decide) (by omega)
      have : FP.Core.b64.p = 53 := rfl
      rw [this, if_pos (by omega), if_pos (by decide)]
    rw [hr] at hv
    have zr : own_zv (FP.ddiv a (4611686018427387904 : UInt64)) = FP.Core.signed sg (FP.Core.nearest n 2) := by
      unfold own_zv; rw [hv]
      show FP.Core.signed sg (FP.Core.inUnits _ _ _) = _
      rw [own_in0]
    have pos : 0 ≤ own_zv (FP.ddiv a (4611686018427387904 : UInt64)) := by
      rw [if_pos (by rw [z2]; omega)] at rn
      have := rn.2.1 0 own_is_0.1.ne_nan (by rw [own_is_0.2, Int.zero_mul, Int.zero_mul, za]; exact Int.mul_nonneg h0 (Int.le_of_lt hU))
      rw [own_is_0.2, Int.zero_mul] at this; exact this
    have zr' : own_zv (FP.ddiv a (4611686018427387904 : UInt64)) = (FP.Core.nearest n 2 : Int) := by
      rw [zr] at pos ⊢
      cases sg
      · rfl
      · unfold FP.Core.signed at pos ⊢; simp only [if_true] at pos ⊢; omega
    refine ⟨⟨_, _, _, hv⟩, ?_⟩
    rw [zr']
    have nv : (FP.Core.nearest n 2 : Int) = if k % 2 = 1 then k / 2 + (k / 2) % 2 else k / 2 := by
      unfold FP.Core.nearest
      by_cases o : n % 2 = 1
      · rw [if_neg (by omega), if_neg (by omega), if_pos (by omega)]; omega
      · rw [if_pos (by omega), if_neg (by omega)]; omega
    rw [nv]; show _ = _ * ((1 : Nat) : Int); omega
theorem own_j12 : (own_j0_12 p0_0 p0_1).toInt = if (own_v0_4 p0_0 p0_1).toInt % 2 = 1 then (own_v0_4 p0_0 p0_1).toInt / 2 + ((own_v0_4 p0_0 p0_1).toInt / 2) % 2 else (own_v0_4 p0_0 p0_1).toInt / 2 := by
  have hb := own_sb p0_0 p0_1
  have h9 : (own_v0_9 p0_0 p0_1).toInt = (own_v0_4 p0_0 p0_1).toInt / 2 := own_half _
  have e1 : (1 : Int64).toInt = 1 := by decide
  have h10 : (own_v0_10 p0_0 p0_1).toInt = (own_v0_4 p0_0 p0_1).toInt / 2 + 1 := by unfold own_v0_10; rw [Jvm.Kit.i64_add (by rw [h9, e1]; omega) (by rw [h9, e1]; omega), h9, e1]
  unfold own_j0_12 own_j0_11
  by_cases a : (own_v0_4 p0_0 p0_1).toInt % 2 = 0
  · rw [if_pos ((own_odd _).mpr a), if_neg (by omega), h9]
  · rw [if_neg (fun q => a ((own_odd _).mp q)), if_pos (show (own_v0_4 p0_0 p0_1).toInt % 2 = 1 by omega)]
    by_cases b : (own_v0_9 p0_0 p0_1).toInt % 2 = 0
    · rw [if_pos ((own_odd _).mpr b), h9]; omega
    · rw [if_neg (fun q => b ((own_odd _).mp q)), h10]; omega
theorem own_r3 : own_at (if (own_v0_4 p0_0 p0_1).toInt % 2 = 1 then (own_v0_4 p0_0 p0_1).toInt / 2 + ((own_v0_4 p0_0 p0_1).toInt / 2) % 2 else (own_v0_4 p0_0 p0_1).toInt / 2) 0 (own_v0_13 p0_0 p0_1) := by
  have hb := own_sb p0_0 p0_1; have hj := own_j12 p0_0 p0_1
  have bd : (own_j0_12 p0_0 p0_1).toInt.natAbs ≤ 4294967296 := by rw [hj]; split <;> omega
  rw [← hj]
  have := own_at_mul (own_at_is (own_is_l2d (x := own_j0_12 p0_0 p0_1) (by omega))) own_s3.1 0 (by decide) (by omega) (by decide)
  rw [Int.mul_one] at this; exact this
theorem own_x_nn145 : NoNaN64 (FP.dmul (FP.l2d (own_j0_12 p0_0 p0_1)) (1 : UInt64)) := own_at_nn (own_r3 p0_0 p0_1)
theorem own_h3 : own_at (if (own_v0_4 p0_0 p0_1).toInt % 2 = 1 then (own_v0_4 p0_0 p0_1).toInt / 2 + ((own_v0_4 p0_0 p0_1).toInt / 2) % 2 else (own_v0_4 p0_0 p0_1).toInt / 2) 0 (FP.ddiv (own_v6_0 (FP.dmul (FP.l2d (own_v0_2 p0_0 p0_1)) (1 : UInt64)) (FP.dmul (FP.l2d (own_v0_3 p0_0 p0_1)) (1 : UInt64))) (4611686018427387904 : UInt64)) := own_tie (own_f3 p0_0 p0_1) (own_sb p0_0 p0_1).1 (own_sb p0_0 p0_1).2
theorem own_x_hc177_3 : (cmpValue (FP.dcmp (own_r6_2 (FP.dmul (FP.l2d (own_v0_2 p0_0 p0_1)) (1 : UInt64)) (FP.dmul (FP.l2d (own_v0_3 p0_0 p0_1)) (1 : UInt64))) (own_v0_13 p0_0 p0_1)) .l) = (0 : Int32) := by
  rw [own_ct (own_f3 p0_0 p0_1).1]; exact own_at_eq (own_h3 p0_0 p0_1) (own_r3 p0_0 p0_1) _
theorem own_x_c171_nn22 : (cmpValue (FP.dcmp (own_v6_0 (FP.dmul (FP.l2d (own_v0_2 p0_0 p0_1)) (4607182418800017408 : UInt64)) (FP.dmul (FP.l2d (own_v0_3 p0_0 p0_1)) (4607182418800017408 : UInt64))) (9218868437227405312 : UInt64)) .g) < (0 : Int32) → NoNaN64 (FP.ddiv (own_v6_0 (FP.dmul (FP.l2d (own_v0_2 p0_0 p0_1)) (4607182418800017408 : UInt64)) (FP.dmul (FP.l2d (own_v0_3 p0_0 p0_1)) (4607182418800017408 : UInt64))) (4611686018427387904 : UInt64)) := fun _ => own_at_nn (own_h1 p0_0 p0_1)
theorem own_x_c171_nn33 : ¬ ((cmpValue (FP.dcmp (own_v6_0 (FP.dmul (FP.l2d (own_v0_2 p0_0 p0_1)) (4607182418800017408 : UInt64)) (FP.dmul (FP.l2d (own_v0_3 p0_0 p0_1)) (4607182418800017408 : UInt64))) (9218868437227405312 : UInt64)) .g) < (0 : Int32)) → NoNaN64 (FP.ddiv (FP.dmul (FP.l2d (own_v0_2 p0_0 p0_1)) (4607182418800017408 : UInt64)) (4611686018427387904 : UInt64)) := fun q => absurd (own_lt_inf (own_f1 p0_0 p0_1).1 _) q
theorem own_x_c171_nn41 : ¬ ((cmpValue (FP.dcmp (own_v6_0 (FP.dmul (FP.l2d (own_v0_2 p0_0 p0_1)) (4607182418800017408 : UInt64)) (FP.dmul (FP.l2d (own_v0_3 p0_0 p0_1)) (4607182418800017408 : UInt64))) (9218868437227405312 : UInt64)) .g) < (0 : Int32)) → NoNaN64 (FP.ddiv (FP.dmul (FP.l2d (own_v0_3 p0_0 p0_1)) (4607182418800017408 : UInt64)) (4611686018427387904 : UInt64)) := fun q => absurd (own_lt_inf (own_f1 p0_0 p0_1).1 _) q
theorem own_x_c171_nn42 : ¬ ((cmpValue (FP.dcmp (own_v6_0 (FP.dmul (FP.l2d (own_v0_2 p0_0 p0_1)) (4607182418800017408 : UInt64)) (FP.dmul (FP.l2d (own_v0_3 p0_0 p0_1)) (4607182418800017408 : UInt64))) (9218868437227405312 : UInt64)) .g) < (0 : Int32)) → NoNaN64 (FP.dadd (FP.ddiv (FP.dmul (FP.l2d (own_v0_2 p0_0 p0_1)) (4607182418800017408 : UInt64)) (4611686018427387904 : UInt64)) (FP.ddiv (FP.dmul (FP.l2d (own_v0_3 p0_0 p0_1)) (4607182418800017408 : UInt64)) (4611686018427387904 : UInt64))) := fun q => absurd (own_lt_inf (own_f1 p0_0 p0_1).1 _) q
theorem own_x_c171_nn33_2 : ¬ ((cmpValue (FP.dcmp (own_v6_0 (FP.dmul (FP.l2d (own_v0_2 p0_0 p0_1)) (9079256848778919936 : UInt64)) (FP.dmul (FP.l2d (own_v0_3 p0_0 p0_1)) (9079256848778919936 : UInt64))) (9218868437227405312 : UInt64)) .g) < (0 : Int32)) → NoNaN64 (FP.ddiv (FP.dmul (FP.l2d (own_v0_2 p0_0 p0_1)) (9079256848778919936 : UInt64)) (4611686018427387904 : UInt64)) := fun _ => own_at_nn (own_hl p0_0 p0_1)
theorem own_x_c171_nn41_2 : ¬ ((cmpValue (FP.dcmp (own_v6_0 (FP.dmul (FP.l2d (own_v0_2 p0_0 p0_1)) (9079256848778919936 : UInt64)) (FP.dmul (FP.l2d (own_v0_3 p0_0 p0_1)) (9079256848778919936 : UInt64))) (9218868437227405312 : UInt64)) .g) < (0 : Int32)) → NoNaN64 (FP.ddiv (FP.dmul (FP.l2d (own_v0_3 p0_0 p0_1)) (9079256848778919936 : UInt64)) (4611686018427387904 : UInt64)) := fun _ => own_at_nn (own_hh p0_0 p0_1)
theorem own_x_c171_nn42_2 : ¬ ((cmpValue (FP.dcmp (own_v6_0 (FP.dmul (FP.l2d (own_v0_2 p0_0 p0_1)) (9079256848778919936 : UInt64)) (FP.dmul (FP.l2d (own_v0_3 p0_0 p0_1)) (9079256848778919936 : UInt64))) (9218868437227405312 : UInt64)) .g) < (0 : Int32)) → NoNaN64 (FP.dadd (FP.ddiv (FP.dmul (FP.l2d (own_v0_2 p0_0 p0_1)) (9079256848778919936 : UInt64)) (4611686018427387904 : UInt64)) (FP.ddiv (FP.dmul (FP.l2d (own_v0_3 p0_0 p0_1)) (9079256848778919936 : UInt64)) (4611686018427387904 : UInt64))) := fun _ => own_at_nn (own_hs p0_0 p0_1)
theorem own_x_c171_nn22_3 : (cmpValue (FP.dcmp (own_v6_0 (FP.dmul (FP.l2d (own_v0_2 p0_0 p0_1)) (1 : UInt64)) (FP.dmul (FP.l2d (own_v0_3 p0_0 p0_1)) (1 : UInt64))) (9218868437227405312 : UInt64)) .g) < (0 : Int32) → NoNaN64 (FP.ddiv (own_v6_0 (FP.dmul (FP.l2d (own_v0_2 p0_0 p0_1)) (1 : UInt64)) (FP.dmul (FP.l2d (own_v0_3 p0_0 p0_1)) (1 : UInt64))) (4611686018427387904 : UInt64)) := fun _ => own_at_nn (own_h3 p0_0 p0_1)
theorem own_x_c171_nn33_3 : ¬ ((cmpValue (FP.dcmp (own_v6_0 (FP.dmul (FP.l2d (own_v0_2 p0_0 p0_1)) (1 : UInt64)) (FP.dmul (FP.l2d (own_v0_3 p0_0 p0_1)) (1 : UInt64))) (9218868437227405312 : UInt64)) .g) < (0 : Int32)) → NoNaN64 (FP.ddiv (FP.dmul (FP.l2d (own_v0_2 p0_0 p0_1)) (1 : UInt64)) (4611686018427387904 : UInt64)) := fun q => absurd (own_lt_inf (own_f3 p0_0 p0_1).1 _) q
theorem own_x_c171_nn41_3 : ¬ ((cmpValue (FP.dcmp (own_v6_0 (FP.dmul (FP.l2d (own_v0_2 p0_0 p0_1)) (1 : UInt64)) (FP.dmul (FP.l2d (own_v0_3 p0_0 p0_1)) (1 : UInt64))) (9218868437227405312 : UInt64)) .g) < (0 : Int32)) → NoNaN64 (FP.ddiv (FP.dmul (FP.l2d (own_v0_3 p0_0 p0_1)) (1 : UInt64)) (4611686018427387904 : UInt64)) := fun q => absurd (own_lt_inf (own_f3 p0_0 p0_1).1 _) q
theorem own_x_c171_nn42_3 : ¬ ((cmpValue (FP.dcmp (own_v6_0 (FP.dmul (FP.l2d (own_v0_2 p0_0 p0_1)) (1 : UInt64)) (FP.dmul (FP.l2d (own_v0_3 p0_0 p0_1)) (1 : UInt64))) (9218868437227405312 : UInt64)) .g) < (0 : Int32)) → NoNaN64 (FP.dadd (FP.ddiv (FP.dmul (FP.l2d (own_v0_2 p0_0 p0_1)) (1 : UInt64)) (4611686018427387904 : UInt64)) (FP.ddiv (FP.dmul (FP.l2d (own_v0_3 p0_0 p0_1)) (1 : UInt64)) (4611686018427387904 : UInt64))) := fun q => absurd (own_lt_inf (own_f3 p0_0 p0_1).1 _) q
end X

set_option maxRecDepth 65536 in
set_option maxHeartbeats 40000000 in
theorem comes_1 {Post : Tables → Env → Array Value → State → Outcome → State → Prop} (hpost : ∀ tb e args s v u, (limb_1_1.after args s (.returned v) u = true ∧ limb_1_2.after args s (.returned v) u = true ∧ True) → FrameEnd s (.returned v) u (Jvm.fieldLocs frame_1_writes args s ++ Jvm.arrayLocs frame_1_arrays args s ++ Jvm.staticLocs frame_1_statics s) 16 128 → Post tb e args s (.returned v) u) :
    ArmFor flags0 classFile x code maxLocals ret World_1 tables_1 room_1 Calls_1 rest_1 Pre_1 Post := by
  intro l hfl _ _ p e ha hc hk s m args below hf hA hF happ hP
  obtain ⟨hcalls, hrest, hpre⟩ := hP
  obtain ⟨-, -, -, hnamed, -, -, -, hat⟩ := (Spec.applies_iff hf).mp happ
  obtain ⟨hg, hn⟩ := and_e (Cond.before_iff.mp (show (Jvm.Cond.and given_1 narrow_1).before args s = true from hpre))
  obtain ⟨g1a, g1b⟩ := and_e hg
  obtain ⟨g2a, g2b⟩ := and_e g1b
  obtain ⟨g3a, g3b⟩ := and_e g2b
  obtain ⟨w0, w1, w2, rfl⟩ : ∃ w0 w1 w2 : Value, args = #[w0, w1, w2] := by
    have hs : args.size = 3 := by simpa [Cond.value, given_1] using g1a
    obtain ⟨L⟩ := args
    match L, hs with
    | [w0, w1, w2], _ => exact ⟨w0, w1, w2, rfl⟩
  have hw := fun d (hd : d ∈ tables_1) => atoms_spec (ws := Jvm.Cond.code x code maxLocals ret :: tables_1) hat d (List.mem_cons_of_mem _ hd)
  obtain ⟨i0, ei0⟩ := is_v g2a
  obtain rfl : w0 = (.int i0) := Option.some.inj ei0
  obtain ⟨i1, ei1⟩ := is_v g3a
  obtain rfl : w1 = (.int i1) := Option.some.inj ei1
  obtain ⟨i2, ei2⟩ := is_v g3b
  obtain rfl : w2 = (.int i2) := Option.some.inj ei2
  obtain ⟨n, o, h1, h2, h3, _, L, rfl, ⟨rfl, N⟩, hq⟩ := own_rm0 l s _ hw tables_1 i0 i1 i2 s.heap s.heap.size (Nat.le_refl _) (by first | exact own_x_nn75 i0 i1 i2 | exact own_x_nn75 i0 i1) (by first | exact own_x_nn157 i0 i1 i2 | exact own_x_nn157 i0 i1) (by first | exact own_x_nn163 i0 i1 i2 | exact own_x_nn163 i0 i1) (by first | exact own_x_c164_hc43 i0 i1 i2 | exact own_x_c164_hc43 i0 i1) (by first | exact own_x_c164_hc52 i0 i1 i2 | exact own_x_c164_hc52 i0 i1) (by first | exact own_x_c164_hc43_2 i0 i1 i2 | exact own_x_c164_hc43_2 i0 i1) (by first | exact own_x_c164_hc52_2 i0 i1 i2 | exact own_x_c164_hc52_2 i0 i1) (by first | exact own_x_c164_hc79 i0 i1 i2 | exact own_x_c164_hc79 i0 i1) (by first | exact own_x_c171_nn8 i0 i1 i2 | exact own_x_c171_nn8 i0 i1) (by first | exact own_x_c171_nn22 i0 i1 i2 | exact own_x_c171_nn22 i0 i1) (by first | exact own_x_c171_nn33 i0 i1 i2 | exact own_x_c171_nn33 i0 i1) (by first | exact own_x_c171_nn41 i0 i1 i2 | exact own_x_c171_nn41 i0 i1) (by first | exact own_x_c171_nn42 i0 i1 i2 | exact own_x_c171_nn42 i0 i1) (by first | exact own_x_hc177 i0 i1 i2 | exact own_x_hc177 i0 i1) (by first | exact own_x_nn98 i0 i1 i2 | exact own_x_nn98 i0 i1) (by first | exact own_x_nn157_2 i0 i1 i2 | exact own_x_nn157_2 i0 i1) (by first | exact own_x_nn163_2 i0 i1 i2 | exact own_x_nn163_2 i0 i1) (by first | exact own_x_c164_hc43_3 i0 i1 i2 | exact own_x_c164_hc43_3 i0 i1) (by first | exact own_x_c164_hc52_3 i0 i1 i2 | exact own_x_c164_hc52_3 i0 i1) (by first | exact own_x_c164_hc43_2_2 i0 i1 i2 | exact own_x_c164_hc43_2_2 i0 i1) (by first | exact own_x_c164_hc52_2_2 i0 i1 i2 | exact own_x_c164_hc52_2_2 i0 i1) (by first | exact own_x_c164_hc79_2 i0 i1 i2 | exact own_x_c164_hc79_2 i0 i1) (by first | exact own_x_c171_nn8_2 i0 i1 i2 | exact own_x_c171_nn8_2 i0 i1) (by first | exact own_x_c171_nn22_2 i0 i1 i2 | exact own_x_c171_nn22_2 i0 i1) (by first | exact own_x_c171_nn33_2 i0 i1 i2 | exact own_x_c171_nn33_2 i0 i1) (by first | exact own_x_c171_nn41_2 i0 i1 i2 | exact own_x_c171_nn41_2 i0 i1) (by first | exact own_x_c171_nn42_2 i0 i1 i2 | exact own_x_c171_nn42_2 i0 i1) (by first | exact own_x_hc177_2 i0 i1 i2 | exact own_x_hc177_2 i0 i1) (by first | exact own_x_nn145 i0 i1 i2 | exact own_x_nn145 i0 i1) (by first | exact own_x_nn157_3 i0 i1 i2 | exact own_x_nn157_3 i0 i1) (by first | exact own_x_nn163_3 i0 i1 i2 | exact own_x_nn163_3 i0 i1) (by first | exact own_x_c164_hc43_4 i0 i1 i2 | exact own_x_c164_hc43_4 i0 i1) (by first | exact own_x_c164_hc52_4 i0 i1 i2 | exact own_x_c164_hc52_4 i0 i1) (by first | exact own_x_c164_hc43_2_3 i0 i1 i2 | exact own_x_c164_hc43_2_3 i0 i1) (by first | exact own_x_c164_hc52_2_3 i0 i1 i2 | exact own_x_c164_hc52_2_3 i0 i1) (by first | exact own_x_c164_hc79_3 i0 i1 i2 | exact own_x_c164_hc79_3 i0 i1) (by first | exact own_x_c171_nn8_3 i0 i1 i2 | exact own_x_c171_nn8_3 i0 i1) (by first | exact own_x_c171_nn22_3 i0 i1 i2 | exact own_x_c171_nn22_3 i0 i1) (by first | exact own_x_c171_nn33_3 i0 i1 i2 | exact own_x_c171_nn33_3 i0 i1) (by first | exact own_x_c171_nn41_3 i0 i1 i2 | exact own_x_c171_nn41_3 i0 i1) (by first | exact own_x_c171_nn42_3 i0 i1 i2 | exact own_x_c171_nn42_3 i0 i1) (by first | exact own_x_hc177_3 i0 i1 i2 | exact own_x_hc177_3 i0 i1) p e ha hc hk s m _ below hf ((Spec.applies_iff_loose hf).mp happ).1 ⟨rfl, State.Warmed39.refl s, rfl⟩ trivial
  refine ⟨n, _, h1, h2, h3, hpost _ _ _ _ _ _ ⟨Cond.after_iff.mpr rfl, Cond.after_iff.mpr (eq_i res_at (Term.int_eval (1)) rfl), trivial⟩ ⟨hq.1, hq.2.1, (hq.2.2.sift fun y hy => Or.inr (N y hy)).mono (by decide) (by decide)⟩⟩
theorem main_1_1 : Claimed_1_1 := comes_1 fun _ _ _ _ _ _ h hF => ⟨h.1, hF⟩
theorem main_1_2 : Claimed_1_2 := comes_1 fun _ _ _ _ _ _ h hF => ⟨h.2.1, hF⟩
end Jvm.Pilot.@@N@@
namespace Jvm.Pilot.@@N@@
open Jvm Jvm.ClassFile Sem Op Lib Jvm.Free Jvm.Stand Jvm.Pilot.@@N@@.Jvm.D
/-! MADE BY PROGRAM (witnessworld.py) out of the Statement's table words and the real class files: 13 classes; the members and pool entries that the words name. The judged class is class 1, her method 1. -/
namespace start1
open Jvm.ClassFile
def u (s : String) : CpInfo := .utf8 (stringToUtf16 s)
/-- a pool by its gaps: so many unusable entries, then the entry; so many at the end -/
def gap : Nat → List CpInfo → List CpInfo
  | 0, r => r
  | n + 1, r => .unusable :: gap n r
def poolList (es : List (Nat × CpInfo)) (last : Nat) : List CpInfo := es.foldr (fun e r => gap e.1 (e.2 :: r)) (gap last [])
def pool (es : List (Nat × CpInfo)) (last : Nat) : Array CpInfo := ⟨poolList es last⟩
def fileOf (pool : Array CpInfo) (this : Nat) (attrs : Array Attribute := #[]) (ms : Array MethodInfo := #[]) (fl : Nat := 33) (sup : Nat := 0) (ifs : Array Nat := #[]) (fds : Array FieldInfo := #[]) : ClassFile where
  minorVersion := 0
  majorVersion := 65
  constantPool := pool
  accessFlags := fl
  thisClass := this
  superClass := sup
  interfaces := ifs
  fields := fds
  methods := ms
  attributes := attrs
def plain (name : String) (sup : Option ClassId) : Class where
  name := name
  kind := .ordinary
  loader := none
  accessFlags := 33
  super := sup
  interfaces := #[]
  cf := none
  fields := #[]
  methods := #[]
  instanceTypes := #[]
  staticTypes := #[]
  resolved := #[]
  callSites := []
  init := .initialized
  statics := none
  mirror := none

def pool0 : Array CpInfo := pool [(5, u "<init>"), (0, u "()V"), (1, .class_ 10), (1, u "java/lang/Object")] 113

def k0c0 : Code := { maxStack := 0, maxLocals := 1, code := object_method_1_code, exceptionTable := #[], attributes := #[] }
def k0m0 : Method := { name := "<init>", desc := "()V", sig := { parameters := [], returnType := none }, accessFlags := 1, code := some k0c0 }
/-- java/lang/Object -/
def k0 : Class := { plain "java/lang/Object" none with
  accessFlags := 33
  interfaces := #[]
  cf := some (fileOf pool0 8 #[] #[{ accessFlags := 1, nameIndex := 5, descriptorIndex := 6, attributes := #[] }] 33 0 #[] #[])
  fields := #[]
  methods := #[k0m0]
  instanceTypes := #[]
  staticTypes := #[]
  resolved := Array.replicate 124 none
  statics := none }

def pool1 : Array CpInfo := pool [(2, .class_ 4), (1, u "java/lang/Object"), (0, u "<init>"), (0, u "()V"), (0, .long 2147483647), (1, .methodref 10 11), (0, .class_ 12), (0, .nameAndType 13 14), (0, u "java/lang/Math"), (0, u "min"), (0, u "(JJ)J"), (0, .methodref 10 16), (0, .nameAndType 17 14), (0, u "max"), (0, .integer 2147483647), (0, .double 4602678819172646912), (1, .double 9079256848778919936), (1, .double 9074753249151549440), (1, .double 1), (1, .class_ 28), (0, u "com/example/surepath/surepath/Interval"), (0, .methodref 27 30), (0, .nameAndType 5 31), (0, u "(DD)V"), (0, .methodref 27 33), (0, .nameAndType 34 35), (0, u "centre"), (0, u "()D"), (0, .class_ 37), (0, u "com/example/surepath/surepath/IntervalCentrePinLaw"), (2, u "law"), (0, u "(III)Z")] 3

def k1m0 : Method := { name := "<init>", desc := "()V", sig := { parameters := [], returnType := none }, accessFlags := 1, code := none }
def k1c1 : Code := { maxStack := 8, maxLocals := 20, code := code, exceptionTable := #[], attributes := #[] }
def k1m1 : Method := { name := "law", desc := "(III)Z", sig := { parameters := [.int, .int, .int], returnType := some .boolean }, accessFlags := 9, code := some k1c1 }
/-- com/example/surepath/surepath/IntervalCentrePinLaw -/
def k1 : Class := { plain "com/example/surepath/surepath/IntervalCentrePinLaw" (some 0) with
  accessFlags := 49
  interfaces := #[]
  cf := some (fileOf pool1 36 #[] #[{ accessFlags := 1, nameIndex := 5, descriptorIndex := 6, attributes := #[] }, { accessFlags := 9, nameIndex := 40, descriptorIndex := 41, attributes := #[] }] 49 2 #[] #[])
  fields := #[]
  methods := #[k1m0, k1m1]
  instanceTypes := #[]
  staticTypes := #[]
  resolved := Array.replicate 45 none
  statics := none }

def pool2 : Array CpInfo := pool [(1, .class_ 2), (0, u "java/lang/Math"), (1, .class_ 6), (1, u "java/lang/Object"), (0, u "<init>"), (0, u "()V"), (89, .class_ 100), (1, u "java/lang/Math$RandomNumberGeneratorHolder"), (20, u "(JJ)J"), (50, u "negativeZeroFloatBits"), (0, u "J"), (2, u "negativeZeroDoubleBits"), (21, u "max"), (2, u "min"), (43, u "$assertionsDisabled"), (0, u "Z"), (91, u "twoToTheDoubleScaleDown"), (0, u "D"), (4, u "twoToTheDoubleScaleUp"), (9, u "E"), (3, u "PI"), (2, u "TAU"), (2, u "DEGREES_TO_RADIANS"), (0, u "RADIANS_TO_DEGREES")] 94

def k2m0 : Method := { name := "<init>", desc := "()V", sig := { parameters := [], returnType := none }, accessFlags := 2, code := none }
def k2c1 : Code := { maxStack := 4, maxLocals := 4, code := jdk_29_method_66_code, exceptionTable := #[], attributes := #[] }
def k2m1 : Method := { name := "max", desc := "(JJ)J", sig := { parameters := [.long, .long], returnType := some .long }, accessFlags := 9, code := some k2c1 }
def k2c2 : Code := { maxStack := 4, maxLocals := 4, code := jdk_29_method_70_code, exceptionTable := #[], attributes := #[] }
def k2m2 : Method := { name := "min", desc := "(JJ)J", sig := { parameters := [.long, .long], returnType := some .long }, accessFlags := 9, code := some k2c2 }
/-- java/lang/Math -/
def k2 : Class := { plain "java/lang/Math" (some 0) with
  accessFlags := 49
  interfaces := #[]
  cf := some (fileOf pool2 1 #[.nestMembers #[98]] #[{ accessFlags := 2, nameIndex := 7, descriptorIndex := 8, attributes := #[] }, { accessFlags := 9, nameIndex := 198, descriptorIndex := 121, attributes := #[] }, { accessFlags := 9, nameIndex := 201, descriptorIndex := 121, attributes := #[] }] 49 4 #[] #[{ accessFlags := 25, nameIndex := 354, descriptorIndex := 339, attributes := #[] }, { accessFlags := 25, nameIndex := 358, descriptorIndex := 339, attributes := #[] }, { accessFlags := 25, nameIndex := 361, descriptorIndex := 339, attributes := #[] }, { accessFlags := 26, nameIndex := 364, descriptorIndex := 339, attributes := #[] }, { accessFlags := 26, nameIndex := 365, descriptorIndex := 339, attributes := #[] }, { accessFlags := 26, nameIndex := 172, descriptorIndex := 173, attributes := #[] }, { accessFlags := 26, nameIndex := 176, descriptorIndex := 173, attributes := #[] }, { accessFlags := 8, nameIndex := 344, descriptorIndex := 339, attributes := #[] }, { accessFlags := 8, nameIndex := 338, descriptorIndex := 339, attributes := #[] }, { accessFlags := 4120, nameIndex := 245, descriptorIndex := 246, attributes := #[] }])
  fields := #[{ name := "E", type := .double, accessFlags := 25, slot := 0, constantValue := 0 }, { name := "PI", type := .double, accessFlags := 25, slot := 1, constantValue := 0 }, { name := "TAU", type := .double, accessFlags := 25, slot := 2, constantValue := 0 }, { name := "DEGREES_TO_RADIANS", type := .double, accessFlags := 26, slot := 3, constantValue := 0 }, { name := "RADIANS_TO_DEGREES", type := .double, accessFlags := 26, slot := 4, constantValue := 0 }, { name := "negativeZeroFloatBits", type := .long, accessFlags := 26, slot := 5, constantValue := 0 }, { name := "negativeZeroDoubleBits", type := .long, accessFlags := 26, slot := 6, constantValue := 0 }, { name := "twoToTheDoubleScaleUp", type := .double, accessFlags := 8, slot := 7, constantValue := 0 }, { name := "twoToTheDoubleScaleDown", type := .double, accessFlags := 8, slot := 8, constantValue := 0 }, { name := "$assertionsDisabled", type := .boolean, accessFlags := 4120, slot := 9, constantValue := 0 }]
  methods := #[k2m0, k2m1, k2m2]
  instanceTypes := #[]
  staticTypes := #[.double, .double, .double, .double, .double, .long, .long, .double, .double, .boolean]
  resolved := Array.replicate 460 none
  statics := none }

def pool3 : Array CpInfo := pool [(1, .methodref 2 3), (0, .class_ 4), (0, .nameAndType 5 6), (0, u "java/lang/Object"), (0, u "<init>"), (0, u "()V"), (0, .class_ 8), (0, u "java/lang/Record")] 13

def k3c0 : Code := { maxStack := 1, maxLocals := 1, code := jdk_30_method_1_code, exceptionTable := #[], attributes := #[] }
def k3m0 : Method := { name := "<init>", desc := "()V", sig := { parameters := [], returnType := none }, accessFlags := 4, code := some k3c0 }
/-- java/lang/Record -/
def k3 : Class := { plain "java/lang/Record" (some 0) with
  accessFlags := 1057
  interfaces := #[]
  cf := some (fileOf pool3 7 #[] #[{ accessFlags := 4, nameIndex := 5, descriptorIndex := 6, attributes := #[] }] 1057 2 #[] #[])
  fields := #[]
  methods := #[k3m0]
  instanceTypes := #[]
  staticTypes := #[]
  resolved := Array.replicate 22 none
  statics := none }

def pool4 : Array CpInfo := pool [(1, .methodref 2 3), (0, .class_ 4), (0, .nameAndType 5 6), (0, u "java/lang/Record"), (0, u "<init>"), (0, u "()V"), (2, .double 9218868437227405312), (13, .fieldref 24 25), (0, .class_ 26), (0, .nameAndType 27 28), (0, u "com/example/surepath/surepath/Interval"), (0, u "lower"), (0, u "D"), (0, .fieldref 24 30), (0, .nameAndType 31 28), (0, u "upper"), (0, .double 4611686018427387904), (13, u "(DD)V"), (6, u "centre"), (0, u "()D")] 34

def k4c0 : Code := { maxStack := 6, maxLocals := 10, code := prog_15_method_1_code, exceptionTable := #[], attributes := #[] }
def k4m0 : Method := { name := "<init>", desc := "(DD)V", sig := { parameters := [.double, .double], returnType := none }, accessFlags := 1, code := some k4c0 }
def k4c1 : Code := { maxStack := 6, maxLocals := 3, code := prog_15_method_2_code, exceptionTable := #[], attributes := #[] }
def k4m1 : Method := { name := "centre", desc := "()D", sig := { parameters := [], returnType := some .double }, accessFlags := 1, code := some k4c1 }
/-- com/example/surepath/surepath/Interval -/
def k4 : Class := { plain "com/example/surepath/surepath/Interval" (some 3) with
  accessFlags := 49
  interfaces := #[]
  cf := some (fileOf pool4 24 #[] #[{ accessFlags := 1, nameIndex := 5, descriptorIndex := 46, attributes := #[] }, { accessFlags := 1, nameIndex := 53, descriptorIndex := 54, attributes := #[] }] 49 2 #[] #[{ accessFlags := 18, nameIndex := 27, descriptorIndex := 28, attributes := #[] }, { accessFlags := 18, nameIndex := 31, descriptorIndex := 28, attributes := #[] }])
  fields := #[{ name := "lower", type := .double, accessFlags := 18, slot := 0, constantValue := 0 }, { name := "upper", type := .double, accessFlags := 18, slot := 1, constantValue := 0 }]
  methods := #[k4m0, k4m1]
  instanceTypes := #[.double, .double]
  staticTypes := #[]
  resolved := Array.replicate 89 none
  statics := none }

def pool5 : Array CpInfo := pool [(1, u "java/lang/Cloneable"), (0, .class_ 1), (0, u "java/lang/Object"), (0, .class_ 3)] 3

/-- java/lang/Cloneable -/
def k5 : Class := { plain "java/lang/Cloneable" (some 0) with
  accessFlags := 1537
  interfaces := #[]
  cf := some (fileOf pool5 2 #[] #[] 1537 4 #[] #[])
  fields := #[]
  methods := #[]
  instanceTypes := #[]
  staticTypes := #[]
  resolved := Array.replicate 8 none
  statics := none }

def pool6 : Array CpInfo := pool [(1, u "java/io/Serializable"), (0, .class_ 1), (0, u "java/lang/Object"), (0, .class_ 3)] 3

/-- java/io/Serializable -/
def k6 : Class := { plain "java/io/Serializable" (some 0) with
  accessFlags := 1537
  interfaces := #[]
  cf := some (fileOf pool6 2 #[] #[] 1537 4 #[] #[])
  fields := #[]
  methods := #[]
  instanceTypes := #[]
  staticTypes := #[]
  resolved := Array.replicate 8 none
  statics := none }

/-- the primitive byte -/
def k7 : Class := { plain "byte" none with kind := .primitive 'B', accessFlags := 0x411 }
/-- [B -/
def k8 : Class := { plain "[B" (some 0) with kind := .array 7 .byte, interfaces := #[5, 6], accessFlags := 1041 }

/-- the primitive double -/
def k9 : Class := { plain "double" none with kind := .primitive 'D', accessFlags := 0x411 }
/-- [D -/
def k10 : Class := { plain "[D" (some 0) with kind := .array 9 .double, interfaces := #[5, 6], accessFlags := 1041 }

/-- the primitive int -/
def k11 : Class := { plain "int" none with kind := .primitive 'I', accessFlags := 0x411 }
/-- [I -/
def k12 : Class := { plain "[I" (some 0) with kind := .array 11 .int, interfaces := #[5, 6], accessFlags := 1041 }

def heap : Heap := #[]
def classes : Array Class := #[k0, k1, k2, k3, k4, k5, k6, k7, k8, k9, k10, k11, k12]
def interned : List (Array UInt16 × Addr) := []
def slotsUsed : Nat := 0
def theMethod : MethodId := ⟨1, 1⟩
def args0 : Array Value := #[.int 5, .int 6, .int 3]
def aboutOver (below : List Frame) : State where
  vm := { classes := classes, interned := interned.toArray }
  heap := heap
  slotsUsed := slotsUsed
  threads := #[{ frames := .invoking theMethod args0 :: below }]
def below0 : List Frame := [.native { method := ⟨0, 0⟩, args := #[] }]
def about1 : State := aboutOver below0
def p0 : Program := .bare "" "" ""
def e0 : Env := launch0.env 0 0 0
theorem w_frames : about1.frames = Frame.invoking theMethod args0 :: below0 := rfl
set_option maxRecDepth 65536 in
theorem w_args : argsFit about1.vm theMethod args0 = true := by decide +kernel
set_option maxRecDepth 65536 in
theorem w_heap : heapFits about1 = true := by decide +kernel
set_option maxRecDepth 65536 in
theorem w_runnable : about1.curStatus? = some .runnable := by decide +kernel
set_option maxRecDepth 65536 in
theorem w_alone : about1.alone = true := by decide +kernel
set_option maxRecDepth 65536 in
theorem w_named : about1.methodNamed? x = some theMethod := by decide +kernel
set_option maxRecDepth 65536 in
theorem w_hears : about1.hears theMethod below0 = true := by decide +kernel
set_option maxRecDepth 65536 in
theorem w_ripe : about1.ripe theMethod args0 below0 = true := by decide +kernel
theorem w_running : about1.status = .running := rfl
set_option maxRecDepth 65536 in
theorem w_room : about1.hasRoom e0.platform room_1 = true :=
  launch0.hasRoom_least _ room_1 (by decide +kernel) (by decide +kernel) (by decide +kernel) (by decide +kernel) (by decide +kernel) (by decide +kernel)
theorem allAtoms_all (ts : List Jvm.Cond) (a : Array Jvm.Value) (st : Jvm.State) : (allAtoms ts).before a st = ts.all (fun c => c.before a st) := by
  induction ts with
  | nil => rfl
  | cons c t ih =>
    show (Jvm.Cond.and c (allAtoms t)).before a st = _
    rw [Jvm.Cond.before_and, ih, List.all_cons]
def words1 : List Jvm.Cond := Jvm.Cond.code x code maxLocals ret :: tables_1
/-- a 'code' word, met by the world's own term for the bytes: nothing is compared byte by byte -/
theorem code_word {y : MethodName} {bytes : ByteArray} {mx : Nat} {rt : Option FieldType} {a : Array Value} {s : State} {m : MethodId} {meth : Method} {c : Code} (h1 : s.methodNamed? y = some m) (h2 : s.vm.method? m = some meth) (h3 : meth.code = some c) (h4 : c.code = bytes)
    (h5 : (c.maxLocals == mx && c.exceptionTable.isEmpty && decide (c.maxStack ≤ mostOperands) && decide (meth.sig.returnType = rt) && !meth.locks && decide (parseMethodDescriptor y.desc = some meth.sig)) = true) : (Jvm.Cond.code y bytes mx rt).before a s = true := by
  simp only [Bool.and_eq_true, beq_iff_eq, Bool.not_eq_true', decide_eq_true_eq] at h5
  obtain ⟨⟨⟨⟨⟨g1, g2⟩, g3⟩, g4⟩, g5⟩, g6⟩ := h5
  simp [Cond.before, Cond.holds, Cond.value, h1, h2, h3, h4, g1, g2, g3, g4, g5, g6]
def isCode : Jvm.Cond → Bool
  | .code _ _ _ _ => true
  | _ => false
theorem all_split {L : List Jvm.Cond} {P : Jvm.Cond → Bool} (h1 : L.all (fun c => isCode c || P c) = true) (h2 : ∀ c ∈ L.filter isCode, P c = true) : L.all P = true := by
  refine List.all_eq_true.mpr fun c hc => ?_
  have h := List.all_eq_true.mp h1 c hc
  rcases Bool.eq_false_or_eq_true (isCode c) with hi | hi
  · exact h2 c (List.mem_filter.mpr ⟨hc, hi⟩)
  · simpa [hi] using h
set_option maxRecDepth 65536 in
theorem w_c0 : (Jvm.Cond.code x code maxLocals ret).before args0 about1 = true := code_word (m := ⟨1, 1⟩) (meth := k1m1) (c := k1c1) (by decide +kernel) rfl rfl rfl (by decide +kernel)
set_option maxRecDepth 65536 in
theorem w_c1 : (Jvm.Cond.code ({ cls := "java/lang/Math", name := "min", desc := "(JJ)J" } : Jvm.MethodName) jdk_29_method_70_code (4 : Nat) (Option.some Jvm.ClassFile.FieldType.long)).before args0 about1 = true := code_word (m := ⟨2, 2⟩) (meth := k2m2) (c := k2c2) (by decide +kernel) rfl rfl rfl (by decide +kernel)
set_option maxRecDepth 65536 in
theorem w_c2 : (Jvm.Cond.code ({ cls := "java/lang/Math", name := "max", desc := "(JJ)J" } : Jvm.MethodName) jdk_29_method_66_code (4 : Nat) (Option.some Jvm.ClassFile.FieldType.long)).before args0 about1 = true := code_word (m := ⟨2, 1⟩) (meth := k2m1) (c := k2c1) (by decide +kernel) rfl rfl rfl (by decide +kernel)
set_option maxRecDepth 65536 in
theorem w_c3 : (Jvm.Cond.code ({ cls := "com/example/surepath/surepath/Interval", name := "<init>", desc := "(DD)V" } : Jvm.MethodName) prog_15_method_1_code (10 : Nat) (Option.none : Option Jvm.ClassFile.FieldType)).before args0 about1 = true := code_word (m := ⟨4, 0⟩) (meth := k4m0) (c := k4c0) (by decide +kernel) rfl rfl rfl (by decide +kernel)
set_option maxRecDepth 65536 in
theorem w_c4 : (Jvm.Cond.code ({ cls := "java/lang/Record", name := "<init>", desc := "()V" } : Jvm.MethodName) jdk_30_method_1_code (1 : Nat) (Option.none : Option Jvm.ClassFile.FieldType)).before args0 about1 = true := code_word (m := ⟨3, 0⟩) (meth := k3m0) (c := k3c0) (by decide +kernel) rfl rfl rfl (by decide +kernel)
set_option maxRecDepth 65536 in
theorem w_c5 : (Jvm.Cond.code ({ cls := "java/lang/Object", name := "<init>", desc := "()V" } : Jvm.MethodName) object_method_1_code (1 : Nat) (Option.none : Option Jvm.ClassFile.FieldType)).before args0 about1 = true := code_word (m := ⟨0, 0⟩) (meth := k0m0) (c := k0c0) (by decide +kernel) rfl rfl rfl (by decide +kernel)
set_option maxRecDepth 65536 in
theorem w_c6 : (Jvm.Cond.code ({ cls := "com/example/surepath/surepath/Interval", name := "centre", desc := "()D" } : Jvm.MethodName) prog_15_method_2_code (3 : Nat) (Option.some Jvm.ClassFile.FieldType.double)).before args0 about1 = true := code_word (m := ⟨4, 1⟩) (meth := k4m1) (c := k4c1) (by decide +kernel) rfl rfl rfl (by decide +kernel)
def codes1 : List Jvm.Cond := [Jvm.Cond.code x code maxLocals ret, Jvm.Cond.code ({ cls := "java/lang/Math", name := "min", desc := "(JJ)J" } : Jvm.MethodName) jdk_29_method_70_code (4 : Nat) (Option.some Jvm.ClassFile.FieldType.long), Jvm.Cond.code ({ cls := "java/lang/Math", name := "max", desc := "(JJ)J" } : Jvm.MethodName) jdk_29_method_66_code (4 : Nat) (Option.some Jvm.ClassFile.FieldType.long), Jvm.Cond.code ({ cls := "com/example/surepath/surepath/Interval", name := "<init>", desc := "(DD)V" } : Jvm.MethodName) prog_15_method_1_code (10 : Nat) (Option.none : Option Jvm.ClassFile.FieldType), Jvm.Cond.code ({ cls := "java/lang/Record", name := "<init>", desc := "()V" } : Jvm.MethodName) jdk_30_method_1_code (1 : Nat) (Option.none : Option Jvm.ClassFile.FieldType), Jvm.Cond.code ({ cls := "java/lang/Object", name := "<init>", desc := "()V" } : Jvm.MethodName) object_method_1_code (1 : Nat) (Option.none : Option Jvm.ClassFile.FieldType), Jvm.Cond.code ({ cls := "com/example/surepath/surepath/Interval", name := "centre", desc := "()D" } : Jvm.MethodName) prog_15_method_2_code (3 : Nat) (Option.some Jvm.ClassFile.FieldType.double)]
set_option maxRecDepth 65536 in
theorem codes_eq : words1.filter isCode = codes1 := rfl
theorem w_codes : ∀ c ∈ words1.filter isCode, c.before args0 about1 = true := by
  rw [codes_eq]
  intro c hc
  simp only [codes1, List.mem_cons, List.not_mem_nil, or_false] at hc
  rcases hc with rfl | rfl | rfl | rfl | rfl | rfl | rfl
  · exact w_c0
  · exact w_c1
  · exact w_c2
  · exact w_c3
  · exact w_c4
  · exact w_c5
  · exact w_c6
set_option maxRecDepth 65536 in
theorem w_t1 : (words1.take 24).all (fun c => isCode c || c.before args0 about1) = true := by decide +kernel
set_option maxRecDepth 65536 in
theorem w_t2 : (words1.drop 24).all (fun c => isCode c || c.before args0 about1) = true := by decide +kernel
theorem w_tables : (allAtoms (Jvm.Cond.code x code maxLocals ret :: tables_1)).before args0 about1 = true := by
  rw [allAtoms_all]
  show words1.all (fun c => c.before args0 about1) = true
  refine all_split ?_ w_codes
  rw [← List.take_append_drop 24 words1, List.all_append, w_t1, w_t2]
  rfl
set_option maxRecDepth 65536 in
theorem w_case : (Jvm.Cond.and given_1 narrow_1).before args0 about1 = true := by decide +kernel
theorem w_applies : (headSpec (Jvm.Cond.code x code maxLocals ret :: tables_1) room_1).applies x e0.platform about1 = true :=
  (Spec.applies_iff w_frames).mpr ⟨w_running, w_runnable, w_alone, w_named, w_hears, w_ripe, w_room, w_tables⟩
theorem atStart : AtStart classFile x code maxLocals ret World_1 tables_1 room_1 Calls_1 rest_1 Pre_1 launch0 p0 e0 about1 theMethod args0 below0 :=
  ⟨lists_1, trivial, launch0.admits_env _ _ _, launch0.least_env, fairChoices_fair.cas, fairChoices_fair.clock, w_frames, w_args, w_heap, w_applies, trivial, trivial, w_case⟩
end start1
theorem witness_1 : WitnessClaimed_1 := ⟨start1.p0, start1.e0, start1.about1, start1.theMethod, start1.args0, start1.below0, start1.atStart⟩
end Jvm.Pilot.@@N@@
